/-
  A PROOF OF 'Rows.FnPatternCoefficientIsNearestClampedWholeAndTradesFrequencyForAreaSaid'. The frame is the guide's template (proof-skeleton) at this function's number and types; the walk and the law are ours.
-/
import Derived.Test.Qxb6618749aCoefWalk
import Derived.Test.Qxb6618749aNearLaw
namespace Go.Proofs.Qxb6618749a.fnPatternNearest
open Go.ChangeShapes Go.WideShapes Go.ChangeAt Go.RowKit
open Go.Proofs.Qxb6618749a.Fl

theorem own : ownKnob Try.prog.godebug = none := by kernel_rfl

/-- The walk past the guards, where the frequency is not above zero. -/
theorem walk_neg (f a f2 aq af x x1 x2 x3 : Nat) (n n1 n2 n3 : Int) (w : World)
    (g1 : (FloatKind.f64.format.order f 13904980397738950656 == some .gt || FloatKind.f64.format.order f 13904980397738950656 == some .eq) = true)
    (g2 : (FloatKind.f64.format.order f 4681608360884174848 == some .lt || FloatKind.f64.format.order f 4681608360884174848 == some .eq) = true)
    (g3 : (FloatKind.f64.format.order a 0 == some .gt || FloatKind.f64.format.order a 0 == some .eq) = true)
    (g4 : (FloatKind.f64.format.order a 4696837146684686336 == some .lt || FloatKind.f64.format.order a 4696837146684686336 == some .eq) = true)
    (e1 : Ieee.double.mul 4611686018427387904 f = some f2) (e2 : Ieee.double.div a 4616189618054758400 = some aq) (e3 : Ieee.double.mul 4616189618054758400 a = some af)
    (c0 : Coef f a x n) (c1 : Coef f2 aq x1 n1) (c2 : Coef f2 a x2 n2) (c3 : Coef f af x3 n3)
    (k1 : Hid (kOf n1 = kOf n)) (k2 : kOf n ≤ kOf n2) (k3 : kOf n ≤ kOf n3)
    (hf : (FloatKind.f64.format.order f 0 == some .lt || FloatKind.f64.format.order f 0 == some .eq) = true) (hk : Hid (kOf n = 1)) :
    Calls Try.prog 3 #[.float .f64 f, .float .f64 a] w fun e w' => e = .returned (.bool true) ∧ Grown w w' := by
  have o1 : ∀ t w, (binOp .mul t (.float .f64 4611686018427387904) (.float .f64 f)).run Try.prog w = .ok (.float .f64 f2) w := fun t w => run_float_arith w .mul t .f64 _ _ _ e1
  have o2 : ∀ t w, (binOp .quo t (.float .f64 a) (.float .f64 4616189618054758400)).run Try.prog w = .ok (.float .f64 aq) w := fun t w => run_float_arith w .quo t .f64 _ _ _ e2
  have o3 : ∀ t w, (binOp .mul t (.float .f64 4616189618054758400) (.float .f64 a)).run Try.prog w = .ok (.float .f64 af) w := fun t w => run_float_arith w .mul t .f64 _ _ _ e3
  have C0 : Hid (∀ w, Calls Try.prog 6 #[.float .f64 f, .float .f64 a] w fun e w' => e = .returned (.int .i64 1) ∧ w' = w) := fun w => by have := coef_any f a x n w c0; rwa [hk.out] at this
  have C1 : Hid (∀ w, Calls Try.prog 6 #[.float .f64 f2, .float .f64 aq] w fun e w' => e = .returned (.int .i64 1) ∧ w' = w) := fun w => by have := coef_any f2 aq x1 n1 w c1; rwa [k1.out, hk.out] at this
  have C2 : Hid (∀ w, Calls Try.prog 6 #[.float .f64 f2, .float .f64 a] w fun e w' => e = .returned (.int .i64 (kOf n2)) ∧ w' = w) := fun w => coef_any f2 a x2 n2 w c2
  have C3 : Hid (∀ w, Calls Try.prog 6 #[.float .f64 f, .float .f64 af] w fun e w' => e = .returned (.int .i64 (kOf n3)) ∧ w' = w) := fun w => coef_any f af x3 n3 w c3
  rw [hk.out] at k2 k3
  clear e1 e2 e3 c0 c1 c2 c3 k1 hk
  generalize kOf n2 = m2 at *
  generalize kOf n3 = m3 at *
  go_enter Try.func3, Try.ntmps3
  go_wp2_with fail
  refine (C0.out _).mono ?_
  rintro e w' ⟨rfl, rfl⟩
  go_wp2_with fail
  refine (C1.out _).mono ?_
  rintro e w' ⟨rfl, rfl⟩
  go_wp2_with fail
  refine (C2.out _).mono ?_
  rintro e w' ⟨rfl, rfl⟩
  go_wp2_with fail
  refine (C3.out _).mono ?_
  rintro e w' ⟨rfl, rfl⟩
  go_wp2_with fail
  go_ret
  exact ⟨rfl, Grown.refl _⟩


/-- The walk past the guards, where the frequency is above zero; k a letter. -/
theorem walk_pos (f a f2 aq af : Nat) (k m2 m3 : Int) (w : World)
    (g1 : (FloatKind.f64.format.order f 13904980397738950656 == some .gt || FloatKind.f64.format.order f 13904980397738950656 == some .eq) = true)
    (g2 : (FloatKind.f64.format.order f 4681608360884174848 == some .lt || FloatKind.f64.format.order f 4681608360884174848 == some .eq) = true)
    (g3 : (FloatKind.f64.format.order a 0 == some .gt || FloatKind.f64.format.order a 0 == some .eq) = true)
    (g4 : (FloatKind.f64.format.order a 4696837146684686336 == some .lt || FloatKind.f64.format.order a 4696837146684686336 == some .eq) = true)
    (e1 : Ieee.double.mul 4611686018427387904 f = some f2) (e2 : Ieee.double.div a 4616189618054758400 = some aq) (e3 : Ieee.double.mul 4616189618054758400 a = some af)
    (C0 : Hid (∀ w, Calls Try.prog 6 #[.float .f64 f, .float .f64 a] w fun e w' => e = .returned (.int .i64 k) ∧ w' = w))
    (C1 : Hid (∀ w, Calls Try.prog 6 #[.float .f64 f2, .float .f64 aq] w fun e w' => e = .returned (.int .i64 k) ∧ w' = w))
    (C2 : Hid (∀ w, Calls Try.prog 6 #[.float .f64 f2, .float .f64 a] w fun e w' => e = .returned (.int .i64 m2) ∧ w' = w))
    (C3 : Hid (∀ w, Calls Try.prog 6 #[.float .f64 f, .float .f64 af] w fun e w' => e = .returned (.int .i64 m3) ∧ w' = w))
    (hk1 : 1 ≤ k) (hk7 : k ≤ 7) (k2 : k ≤ m2) (k3 : k ≤ m3)
    (hf : (FloatKind.f64.format.order f 0 == some .lt || FloatKind.f64.format.order f 0 == some .eq) = false) (hb : Bounds f a k) :
    Calls Try.prog 3 #[.float .f64 f, .float .f64 a] w fun e w' => e = .returned (.bool true) ∧ Grown w w' := by
  have o1 : ∀ t w, (binOp .mul t (.float .f64 4611686018427387904) (.float .f64 f)).run Try.prog w = .ok (.float .f64 f2) w := fun t w => run_float_arith w .mul t .f64 _ _ _ e1
  have o2 : ∀ t w, (binOp .quo t (.float .f64 a) (.float .f64 4616189618054758400)).run Try.prog w = .ok (.float .f64 aq) w := fun t w => run_float_arith w .quo t .f64 _ _ _ e2
  have o3 : ∀ t w, (binOp .mul t (.float .f64 4616189618054758400) (.float .f64 a)).run Try.prog w = .ok (.float .f64 af) w := fun t w => run_float_arith w .mul t .f64 _ _ _ e3
  obtain ⟨q, b, ab, bb, lo, aa, hi, ⟨t1, t2, s1, s2, s3⟩, b1, b2, b3, b4, b5, b6, hlo, hhi⟩ := hb
  have p1 : ∀ t w, (binOp .mul t (.float .f64 4616189618054758400) (.float .f64 f)).run Try.prog w = .ok (.float .f64 t1) w := fun t w => run_float_arith w .mul t .f64 _ _ _ s1
  have p2 : ∀ t w, (binOp .mul t (.float .f64 t1) (.float .f64 f)).run Try.prog w = .ok (.float .f64 t2) w := fun t w => run_float_arith w .mul t .f64 _ _ _ s2
  have p3 : ∀ t w, (binOp .mul t (.float .f64 t2) (.float .f64 a)).run Try.prog w = .ok (.float .f64 q) w := fun t w => run_float_arith w .mul t .f64 _ _ _ s3
  have p4 : ∀ t w, (binOp .sub t (.float .f64 (floatOfInt .f64 k)) (.float .f64 4602678819172646912)).run Try.prog w = .ok (.float .f64 b) w := fun t w => run_float_arith w .sub t .f64 _ _ _ b1
  have p5 : ∀ t w, (binOp .add t (.float .f64 (floatOfInt .f64 k)) (.float .f64 4602678819172646912)).run Try.prog w = .ok (.float .f64 ab) w := fun t w => run_float_arith w .add t .f64 _ _ _ b2
  have p6 : ∀ t w, (binOp .mul t (.float .f64 b) (.float .f64 b)).run Try.prog w = .ok (.float .f64 bb) w := fun t w => run_float_arith w .mul t .f64 _ _ _ b3
  have p7 : ∀ t w, (binOp .mul t (.float .f64 bb) (.float .f64 4607182418791010209)).run Try.prog w = .ok (.float .f64 lo) w := fun t w => run_float_arith w .mul t .f64 _ _ _ b4
  have p8 : ∀ t w, (binOp .mul t (.float .f64 ab) (.float .f64 ab)).run Try.prog w = .ok (.float .f64 aa) w := fun t w => run_float_arith w .mul t .f64 _ _ _ b5
  have p9 : ∀ t w, (binOp .mul t (.float .f64 aa) (.float .f64 4607182418804521008)).run Try.prog w = .ok (.float .f64 hi) w := fun t w => run_float_arith w .mul t .f64 _ _ _ b6
  clear e1 e2 e3 s1 s2 s3 b1 b2 b3 b4 b5 b6
  by_cases h1 : 1 < k
  · have l1 : (FloatKind.f64.format.order q lo == some .gt || FloatKind.f64.format.order q lo == some .eq) = true := hlo h1
    by_cases h7 : k < 7
    · have l2 : (FloatKind.f64.format.order q hi == some .lt || FloatKind.f64.format.order q hi == some .eq) = true := hhi h7
      clear hlo hhi
      go_enter Try.func3, Try.ntmps3
      go_wp2_with fail
      refine (C0.out _).mono ?_
      rintro e w' ⟨rfl, rfl⟩
      go_wp2_with fail
      refine (C1.out _).mono ?_
      rintro e w' ⟨rfl, rfl⟩
      go_wp2_with fail
      refine (C2.out _).mono ?_
      rintro e w' ⟨rfl, rfl⟩
      go_wp2_with fail
      refine (C3.out _).mono ?_
      rintro e w' ⟨rfl, rfl⟩
      go_wp2_with fail
      go_ret
      exact ⟨rfl, Grown.refl _⟩
    · clear hlo hhi
      go_enter Try.func3, Try.ntmps3
      go_wp2_with fail
      refine (C0.out _).mono ?_
      rintro e w' ⟨rfl, rfl⟩
      go_wp2_with fail
      refine (C1.out _).mono ?_
      rintro e w' ⟨rfl, rfl⟩
      go_wp2_with fail
      refine (C2.out _).mono ?_
      rintro e w' ⟨rfl, rfl⟩
      go_wp2_with fail
      refine (C3.out _).mono ?_
      rintro e w' ⟨rfl, rfl⟩
      go_wp2_with fail
      go_ret
      exact ⟨rfl, Grown.refl _⟩
  · have l2 : (FloatKind.f64.format.order q hi == some .lt || FloatKind.f64.format.order q hi == some .eq) = true := hhi (by omega)
    clear hlo hhi
    go_enter Try.func3, Try.ntmps3
    go_wp2_with fail
    refine (C0.out _).mono ?_
    rintro e w' ⟨rfl, rfl⟩
    go_wp2_with fail
    refine (C1.out _).mono ?_
    rintro e w' ⟨rfl, rfl⟩
    go_wp2_with fail
    refine (C2.out _).mono ?_
    rintro e w' ⟨rfl, rfl⟩
    go_wp2_with fail
    refine (C3.out _).mono ?_
    rintro e w' ⟨rfl, rfl⟩
    go_wp2_with fail
    go_ret
    exact ⟨rfl, Grown.refl _⟩

theorem walk (f a : Nat) (w : World) : Calls Try.prog 3 #[.float .f64 f, .float .f64 a] w fun e w' => e = .returned (.bool true) ∧ Grown w w' := by
  by_cases g1 : (FloatKind.f64.format.order f 13904980397738950656 == some .gt || FloatKind.f64.format.order f 13904980397738950656 == some .eq) = true
  · by_cases g2 : (FloatKind.f64.format.order f 4681608360884174848 == some .lt || FloatKind.f64.format.order f 4681608360884174848 == some .eq) = true
    · by_cases g3 : (FloatKind.f64.format.order a 0 == some .gt || FloatKind.f64.format.order a 0 == some .eq) = true
      · by_cases g4 : (FloatKind.f64.format.order a 4696837146684686336 == some .lt || FloatKind.f64.format.order a 4696837146684686336 == some .eq) = true
        · obtain ⟨f2, aq, af, x, n, x1, n1, x2, n2, x3, n3, e1, e2, e3, c0, c1, k1, c2, k2, c3, k3, hb⟩ := near_law f a g1 g2 g3 g4
          rcases hb with ⟨hf, hk⟩ | ⟨hf, hb⟩
          · exact walk_neg f a f2 aq af x x1 x2 x3 n n1 n2 n3 w g1 g2 g3 g4 e1 e2 e3 c0 c1 c2 c3 k1 k2 k3 hf hk
          · refine walk_pos f a f2 aq af (kOf n) (kOf n2) (kOf n3) w g1 g2 g3 g4 e1 e2 e3 (fun w => coef_any f a x n w c0) (fun w => ?_) (fun w => coef_any f2 a x2 n2 w c2) (fun w => coef_any f af x3 n3 w c3) (kOf_ge n) (by unfold kOf; omega) k2 k3 hf hb
            have := coef_any f2 aq x1 n1 w c1
            rwa [k1] at this
        · have g4' : (FloatKind.f64.format.order a 4696837146684686336 == some .lt || FloatKind.f64.format.order a 4696837146684686336 == some .eq) = false := by simpa using g4
          clear g4
          go_enter Try.func3, Try.ntmps3
          go_wp2
          go_ret
          exact ⟨rfl, Grown.refl _⟩
      · have g3' : (FloatKind.f64.format.order a 0 == some .gt || FloatKind.f64.format.order a 0 == some .eq) = false := by simpa using g3
        clear g3
        go_enter Try.func3, Try.ntmps3
        go_wp2
        go_ret
        exact ⟨rfl, Grown.refl _⟩
    · have g2' : (FloatKind.f64.format.order f 4681608360884174848 == some .lt || FloatKind.f64.format.order f 4681608360884174848 == some .eq) = false := by simpa using g2
      clear g2
      go_enter Try.func3, Try.ntmps3
      go_wp2
      go_ret
      exact ⟨rfl, Grown.refl _⟩
  · have g1' : (FloatKind.f64.format.order f 13904980397738950656 == some .gt || FloatKind.f64.format.order f 13904980397738950656 == some .eq) = false := by simpa using g1
    clear g1
    go_enter Try.func3, Try.ntmps3
    go_wp2
    go_ret
    exact ⟨rfl, Grown.refl _⟩

/-! ### THE ROW's STEP -/
set_option maxRecDepth 100000 in
theorem lifted (os : Os) (started : os.Started) (H : Type) (enc : TypeId × Value → H) :
    ReturnsInHanded {} Try.checked os 3 .any (Rows.fnPatternCoefficientIsNearestClampedWholeAndTradesFrequencyForAreaSpec.pre6 enc Try.prog Try.f3 Rows.fnPatternCoefficientIsNearestClampedWholeAndTradesFrequencyForAreaRow.domain false) (Rows.fnPatternCoefficientIsNearestClampedWholeAndTradesFrequencyForAreaSpec.post enc Try.prog Try.f3 false true false false) := by
  refine returnsInHanded_of_change (C := Try.checked) own started (by kernel_rfl) Try.func3
    (ChangeSpec.witness6 (enc := enc) (C := Try.checked) false ⟨#[], #[.float .f64 0, .float .f64 0], []⟩ 8 (by kernel_rfl) (by kernel_rfl) (by kernel_rfl) (by kernel_rfl)) ?_
  intro W base args ds gs before hval0 hW hcnd _
  have hval : ∀ (j : Nat) t v, Try.f3.params[j]? = some t → args[j]? = some v → Value.okWide Try.prog W .any base t v := hval0
  have hW' := hW
  obtain ⟨p, q, hA0, hV, rfl, hfz, hnd⟩ := hW
  have hA : DataW.TrodAll enc Try.prog W 0 (fun _ => true) true Try.f3.params.toList args.toList ds p := hA0
  rw [Try.params3] at hA hval
  obtain ⟨v0, vs0, d0, ds0, p0, q0, hargs, rfl, rfl, h0, r0⟩ := trodAll_cons hA
  obtain ⟨v1, vs1, d1, ds1, p1, q1, rfl, rfl, rfl, h1, r1⟩ := trodAll_cons r0
  obtain ⟨rfl, rfl, rfl⟩ := trodAll_nil r1
  obtain rfl : args = #[v0, v1] := by cases args; simp_all
  obtain ⟨rfl, rfl⟩ := trodVars_none hV
  obtain ⟨a0, rfl, rfl, rfl, w0⟩ := open_float Try.underlying22 (hval 0 22 v0 rfl rfl) h0
  obtain ⟨a1, rfl, rfl, rfl, w1⟩ := open_float Try.underlying22 (hval 1 22 v1 rfl rfl) h1
  clear hA0 hval0
  simp only [List.append_nil] at hW'
  refine (walk a0 a1 W).mono fun e W' ⟨he, hg⟩ => ?_
  subst he
  exact ⟨_, rfl, post_of_same (pa := []) (pv := []) hW' (fun _ _ _ => (trodAll_cons_mk (shut_bool Try.underlying4 _) trodAll_mk0)) (fun sp _ => (trodAll_cons_mk (shut_float Try.underlying22 w0) (trodAll_cons_mk (shut_float Try.underlying22 w1) trodAll_mk0))) (fun _ _ => rfl) rfl
    (hg.frame _) hg.2.1 (ok_one (by kernel_rfl) rfl (okWide_bool_mk Try.underlying4 _))⟩

theorem over : Rows.fnPatternCoefficientIsNearestClampedWholeAndTradesFrequencyForAreaRow.holds Try.pinned (OpenSpec.ofChange Rows.fnPatternCoefficientIsNearestClampedWholeAndTradesFrequencyForAreaSpec) :=
  OpenClaim.holds_of_wide 3 Try.f3 rfl rfl rfl rfl rfl rfl rfl ⟨rfl, rfl, rfl, rfl, rfl⟩ rfl rfl rfl rfl rfl (by kernel_rfl) Try.func3 (by kernel_rfl)
    (of_decide_eq_true (by kernel_rfl)) (by unfold Func.isWrapper; first | (rw [if_pos (by decide +kernel)]; kernel_rfl) | (rw [if_neg (by decide +kernel)]; exact ⟨rfl, rfl⟩))
    (fun os started H enc _ => lifted os started H enc)

/-- ████ THE STATEMENT ████ -/
theorem proved : Rows.FnPatternCoefficientIsNearestClampedWholeAndTradesFrequencyForAreaSaid :=
  over
#print axioms proved

end Go.Proofs.Qxb6618749a.fnPatternNearest
