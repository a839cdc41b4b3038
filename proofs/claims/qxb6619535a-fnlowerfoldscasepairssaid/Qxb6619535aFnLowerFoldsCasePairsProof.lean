/-
  A PROOF OF 'Rows.FnLowerFoldsCasePairsSaid' ('example.com/waymark/waymark/zzlaws_internal_dnswire_b1.FnLowerFoldsCasePairs'), WRITTEN BY PROGRAM (proof-skeleton.mjs) off the guide's own print for that function. Not trusted: Lean checks it.
  The frame is the guide's template at this function's number and types; the walk is ours.
-/
import Derived.Test.Qxb6619535aRows
import Derived.WalkKit
import Derived.ProofKit
import Derived.OpenShut
import Derived.ShutString
import Derived.Test.Qxb6619535aLower
namespace Go.Proofs.Qxb6619535a.fnLowerFoldsCasePairs
open Go.ChangeShapes Go.WideShapes Go.ChangeAt Go.RowKit
open Go.ChangeMaps (open_string shut_string)
set_option linter.unusedVariables false      -- a walk need not use every 'w<i>' (that an integer argument fits its kind)

theorem own : ownKnob Try.prog.godebug = none := by kernel_rfl

/-! ### STEP 1: THE WALK -/
theorem pairB (c d : Int) (h0 : 0 ≤ c) (h1 : c ≤ 255) (k0 : 0 ≤ d) (k1 : d ≤ 255) :
    (lowV c == lowV d) = (c == d || (bits .xor .u8 c d == 32 && letB c)) := by
  have := pair c d h0 h1 k0 k1
  rw [Bool.eq_iff_iff]
  simpa using this
theorem or_low (c : Int) (h0 : 0 ≤ c) (h1 : c ≤ 255) (hn : ¬ lowV c = c) : (lowV c != bits .or .u8 c 32) = false := by
  have := oct_all (fun c => (lowV c == c) || !(lowV c != bits .or .u8 c 32)) (by decide +kernel) c h0 h1
  simp_all
theorem walk (a0 : Int) (a1 : Int) (w0 : (Lit.int .u8 a0).wf = true) (w1 : (Lit.int .u8 a1).wf = true) (w : World) :
    Calls Try.prog 3 #[.int .u8 a0, .int .u8 a1] w fun e w' => e = .returned (.bool true) ∧ Grown w w' := by
  have b0 := bounds_u8 w0
  have b1 := bounds_u8 w1
  obtain ⟨b00, b01⟩ := b0
  obtain ⟨b10, b11⟩ := b1
  have HP : Hid ((lowV a0 == lowV a1) = (a0 == a1 || (bits .xor .u8 a0 a1 == 32 && letB a0))) := pairB a0 a1 b00 b01 b10 b11
  have lo := low_or a0
  have l2 := low_or (lowV a0)
  clear w0 w1
  by_cases q : lowV a0 = a0
  · have hlt : a0 < 65 ∨ 90 < a0 := by omega
    clear lo l2
    go_enter Try.func3, Try.ntmps3
    go_wp2_with (first | (go_at_call 5; refine (zzlower_any _ _ (by omega) (by omega)).mono ?_; rintro e w' ⟨rfl, rfl⟩) | (go_at_call 6; refine (letter_any _ _ (by omega) (by omega)).mono ?_; rintro e w' ⟨rfl, rfl⟩))
    all_goals
      go_ret
      have hp := HP.out
      exact ⟨ret_bool (by simp_all), by repeat (first | exact Grown.refl _ | apply Grown.drew | apply Grown.alloc)⟩
  · have b2 : 90 < lowV a0 := by omega
    have b3 : lowV a0 ≤ 255 := by omega
    have hid : (lowV (lowV a0) != lowV a0) = false := by have : lowV (lowV a0) = lowV a0 := by omega
                                                         rw [this]; simp
    have hne : (lowV a0 != a0) = true := by simpa using q
    have hor := or_low a0 b00 b01 q
    clear lo l2 q
    go_enter Try.func3, Try.ntmps3
    go_wp2_with (first | (go_at_call 5; refine (zzlower_any _ _ (by omega) (by omega)).mono ?_; rintro e w' ⟨rfl, rfl⟩) | (go_at_call 6; refine (letter_any _ _ (by omega) (by omega)).mono ?_; rintro e w' ⟨rfl, rfl⟩))
    all_goals
      go_ret
      have hp := HP.out
      exact ⟨ret_bool (by simp_all), by repeat (first | exact Grown.refl _ | apply Grown.drew | apply Grown.alloc)⟩

/-! ### THE ROW's STEP: WRITTEN OUT: LEAVE IT -/
set_option maxRecDepth 100000 in
theorem lifted (os : Os) (started : os.Started) (H : Type) (enc : TypeId × Value → H) :
    ReturnsInHanded {} Try.checked os 3 .any (Rows.fnLowerFoldsCasePairsSpec.pre6 enc Try.prog Try.f3 Rows.fnLowerFoldsCasePairsRow.domain false) (Rows.fnLowerFoldsCasePairsSpec.post enc Try.prog Try.f3 false true false false) := by
  refine returnsInHanded_of_change (C := Try.checked) own started (by kernel_rfl) Try.func3
    (ChangeSpec.witness6 (enc := enc) (C := Try.checked) false ⟨#[], #[.int .u8 0, .int .u8 0], []⟩ 8 (by kernel_rfl) (by kernel_rfl) (by kernel_rfl) (by kernel_rfl)) ?_
  intro W base args ds gs before hval0 hW hcnd _
  have hval : ∀ (j : Nat) t v, Try.f3.params[j]? = some t → args[j]? = some v → Value.okWide Try.prog W .any base t v := hval0
  have hW' := hW
  obtain ⟨p, q, hA0, hV, rfl, hfz, hnd⟩ := hW
  have hA : DataW.TrodAll enc Try.prog W 0 (fun _ => true) true Try.f3.params.toList args.toList ds p := hA0
  rw [Try.params3] at hA hval
  obtain ⟨v0, vs0, d0, ds0, p0, q0, hargs, rfl, rfl, h0, r0⟩ := trodAll_cons hA
  obtain ⟨v1, vs1, d1, ds1, p1, q1, rfl, rfl, rfl, h1, r1⟩ := trodAll_cons r0
  obtain ⟨rfl, rfl, rfl⟩ := trodAll_nil r1
  obtain rfl : args = #[v0, v1] := by cases args; simp_all
  obtain ⟨rfl, rfl⟩ := trodVars_none hV
  obtain ⟨a0, rfl, rfl, rfl, w0⟩ := open_int Try.underlying5 (hval 0 5 v0 rfl rfl) h0
  obtain ⟨a1, rfl, rfl, rfl, w1⟩ := open_int Try.underlying5 (hval 1 5 v1 rfl rfl) h1
  clear hA0 hval0
  simp only [List.append_nil] at hW'
  refine (walk a0 a1 w0 w1 W).mono fun e W' ⟨he, hg⟩ => ?_
  subst he
  exact ⟨_, rfl, post_of_same (pa := []) (pv := []) hW' (fun _ _ _ => (trodAll_cons_mk (shut_bool Try.underlying4 _) trodAll_mk0)) (fun sp _ => (trodAll_cons_mk (shut_int Try.underlying5 w0) (trodAll_cons_mk (shut_int Try.underlying5 w1) trodAll_mk0))) (fun _ _ => rfl) rfl
    (hg.frame _) hg.2.1 (ok_one (by kernel_rfl) rfl (okWide_bool_mk Try.underlying4 _))⟩

theorem over : Rows.fnLowerFoldsCasePairsRow.holds Try.pinned (OpenSpec.ofChange Rows.fnLowerFoldsCasePairsSpec) :=
  OpenClaim.holds_of_wide 3 Try.f3 rfl rfl rfl rfl rfl rfl rfl ⟨rfl, rfl, rfl, rfl, rfl⟩ rfl rfl rfl rfl rfl (by kernel_rfl) Try.func3 (by kernel_rfl)
    (of_decide_eq_true (by kernel_rfl)) (by unfold Func.isWrapper; first | (rw [if_pos (by decide +kernel)]; kernel_rfl) | (rw [if_neg (by decide +kernel)]; exact ⟨rfl, rfl⟩))
    (fun os started H enc _ => lifted os started H enc)

/-- ████ THE STATEMENT ████ -/
theorem proved : Rows.FnLowerFoldsCasePairsSaid :=
  over
#print axioms proved
end Go.Proofs.Qxb6619535a.fnLowerFoldsCasePairs
