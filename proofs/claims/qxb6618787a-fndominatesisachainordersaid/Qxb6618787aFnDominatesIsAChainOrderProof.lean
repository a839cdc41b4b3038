/-
  A PROOF OF 'Rows.FnDominatesIsAChainOrderSaid' ('example.com/ramify/ramify/zzlaws_root_b1.FnDominatesIsAChainOrder'), WRITTEN BY PROGRAM (proof-skeleton.mjs, third state) off the guide's own print for that function. Not trusted: Lean checks it.
  The frame is the guide's template at this function's number and types; the walk is ours.
-/
import Derived.Test.Qxb6618787aRows
import Derived.WalkKit
import Derived.ProofKit
import Derived.OpenShut
import Derived.ShutString
import Derived.ChangeOld
import Derived.Below
import Derived.Test.Qxb6618787aDom
namespace Go.Proofs.Qxb6618787a.fnDominatesIsAChainOrder
open Go.ChangeShapes Go.WideShapes Go.ChangeAt Go.RowKit
open Go.ChangeMaps (open_string shut_string)
open Go.Deep Go.Proofs.Qxb6618787a.Tree
set_option linter.unusedVariables false

theorem own : ownKnob Try.prog.godebug = none := by kernel_rfl
theorem laidOut : laidOutB Try.prog = true := by kernel_rfl

/-- WHAT THE WALK IS TOLD OF A SLICE OF INTEGERS THAT CAME IN: it is nil; or it leads to a row of 'cap' cells, the numbers 'zs' (the first 'len' are its elements, the rest its spare room), each fitting its kind. -/
def IsRow (k : IntKind) (w : World) (a : Option Addr) (len cap : Nat) (zs : List Int) : Prop :=
  (a = none ∧ len = 0 ∧ cap = 0 ∧ zs = []) ∨
  ∃ x, a = some x ∧ len ≤ cap ∧ cap ≤ maxLen ∧ zs.length = cap ∧ (∀ i, i < zs.length → w.cell? (x.add i) = some (.int k (zs.getD i 0))) ∧ ∀ n ∈ zs, (Lit.int k n).wf = true

/-! ### STEP 1: THE WALK -/
set_option maxHeartbeats 2000000

theorem core (s off n cap : Nat) (par : Nat → Int) (a b c : Nat) (w : World) (hn1 : 1 ≤ n) (hn2 : n ≤ 65536) (hs : s < w.heap.size) (hc : ∀ i, i < n → w.cell? ⟨s, off + i, none⟩ = some (.int .i64 (par i))) (ha : a < n) (hb : b < n) (hcn : c < n)
    (ra rb ab ba bc ac ca cb : Bool) (Hra : Hid (rr n par (n + 1) (a : Int) = ra)) (Hrb : Hid (rr n par (n + 1) (b : Int) = rb)) (Haa : Hid (domB n par a a = ra)) (H0a : Hid (domB n par 0 a = ra))
    (Hab : Hid (domB n par a b = ab)) (Hba : Hid (domB n par b a = ba)) (Hbc : Hid (domB n par b c = bc)) (Hac : Hid (domB n par a c = ac)) (Hca : Hid (domB n par c a = ca)) (Hcb : Hid (domB n par c b = cb))
    (L1 : Hid (ab = true → ra = true ∧ rb = true)) (L2 : Hid (ab = true → bc = true → ac = true)) (L3 : Hid (ab = true → ba = true → a = b)) (L4 : Hid (ab = true → cb = true → ac = true ∨ ca = true)) :
    Calls Try.prog 4 #[.slice (some ⟨s, off, none⟩) n cap, .int .i64 (a : Int), .int .i64 (b : Int), .int .i64 (c : Int)] w fun e w' => e = .returned (.bool true) ∧ Below w.heap.size w w' := by
  go_enter Try.func4, Try.ntmps4
  go_wp2_with fail
  refine (bytes11 _ _ _ _ _ _ _ hn2).mono ?_
  rintro e w' ⟨rfl, rfl⟩
  go_wp2_with fail
  refine (number_any s off n cap par _ hn1 hn2 hs hc).mono ?_
  rintro e w1 ⟨rfl, hbel, hpre, hpost⟩
  go_wp2_with fail
  refine (new_any _ _ _ _ _ _ _ _ _ rfl rfl).mono ?_
  rintro e w2 ⟨rfl, rfl⟩
  obtain ⟨hT, hB, hC⟩ := tree_made hs hbel hpre hpost hc
  clear hbel hpre hpost hc
  generalize w1.heap.size = D at *
  generalize w1.alloc _ = W at *
  have HT : Hid (IsTree D w'.heap.size (w'.heap.size + 1) n (preV n par) (postV n par) W) := hT
  have HB : Hid (Below w'.heap.size w' W) := hB
  have HC : Hid (∀ i, i < n → W.cell? ⟨s, off + i, none⟩ = some (.int .i64 (par i))) := hC
  clear hT hB hC
  go_wp2_with fail
  refine (reach_at _ HC.out ra Hra.out 0 (fun v w hw => reach_any s off n cap par v w hn2 hw)).mono ?_
  rintro e v1 ⟨rfl, q1, rfl⟩
  go_wp2_with fail
  refine (reach_at _ HC.out rb Hrb.out q1 (fun v w hw => reach_any s off n cap par v w hn2 hw)).mono ?_
  rintro e v2 ⟨rfl, q2, rfl⟩
  go_wp2_with fail
  refine (zzdom_at HT.out a a _ _ rfl rfl ha ha ra Haa.out q2).mono ?_
  rintro e v3 ⟨rfl, q3, rfl⟩
  go_wp2_with fail
  refine (zzdom_at HT.out 0 a _ _ rfl rfl hn1 ha ra H0a.out q3).mono ?_
  rintro e v4 ⟨rfl, q4, rfl⟩
  go_wp2_with fail
  refine (zzdom_at HT.out a b _ _ rfl rfl ha hb ab Hab.out q4).mono ?_
  rintro e v5 ⟨rfl, q5, rfl⟩
  go_wp2_with fail
  refine (zzdom_at HT.out b a _ _ rfl rfl hb ha ba Hba.out q5).mono ?_
  rintro e v6 ⟨rfl, q6, rfl⟩
  go_wp2_with fail
  refine (zzdom_at HT.out b c _ _ rfl rfl hb hcn bc Hbc.out q6).mono ?_
  rintro e v7 ⟨rfl, q7, rfl⟩
  go_wp2_with fail
  refine (zzdom_at HT.out a c _ _ rfl rfl ha hcn ac Hac.out q7).mono ?_
  rintro e v8 ⟨rfl, q8, rfl⟩
  go_wp2_with fail
  refine (zzdom_at HT.out c a _ _ rfl rfl hcn ha ca Hca.out q8).mono ?_
  rintro e v9 ⟨rfl, q9, rfl⟩
  go_wp2_with fail
  refine (zzdom_at HT.out c b _ _ rfl rfl hcn hb cb Hcb.out q9).mono ?_
  rintro e v10 ⟨rfl, q10, rfl⟩
  clear Hra Hrb Haa H0a Hab Hba Hbc Hac Hca Hcb HT HC
  cases hab : ab with
  | false =>
    clear L1 L2 L3 L4
    subst hab
    go_wp2_with fail
    go_ret
    exact ⟨rfl, below_drewN HB.out _⟩
  | true =>
    obtain ⟨rfl, rfl⟩ := L1.out hab
    subst hab
    have M2 := L2.out rfl
    have M3 := L3.out rfl
    have M4 := L4.out rfl
    clear L1 L2 L3 L4
    have hn3 : ba = true → ((a : Int) != (b : Int)) = false := by intro h; rw [M3 h]; simp
    clear M3
    have hcases : (ba = false ∨ (ba = true ∧ ((a : Int) != (b : Int)) = false)) := by
      cases ba
      · exact Or.inl rfl
      · exact Or.inr ⟨rfl, hn3 rfl⟩
    clear hn3
    cases bc
    · cases cb
      · clear M2 M4
        rcases hcases with rfl | ⟨rfl, hne⟩
        all_goals
          go_wp2_with fail
          go_ret
          exact ⟨rfl, below_drewN HB.out _⟩
      · rcases M4 rfl with rfl | rfl
        · clear M2 M4
          rcases hcases with rfl | ⟨rfl, hne⟩
          all_goals
            go_wp2_with fail
            go_ret
            exact ⟨rfl, below_drewN HB.out _⟩
        · clear M2 M4
          cases ac
          all_goals
            rcases hcases with rfl | ⟨rfl, hne⟩
            all_goals
              go_wp2_with fail
              go_ret
              exact ⟨rfl, below_drewN HB.out _⟩
    · obtain rfl := M2 rfl
      clear M2 M4
      cases cb
      all_goals
        rcases hcases with rfl | ⟨rfl, hne⟩
        all_goals
          go_wp2_with fail
          go_ret
          exact ⟨rfl, below_drewN HB.out _⟩

theorem walk (a0 : Option Addr) (len0 cap0 : Nat) (z0 : List Int) (a1 : Int) (a2 : Int) (a3 : Int) (w : World) (w0 : IsRow .i64 w a0 len0 cap0 z0) (w1 : (Lit.int .i64 a1).wf = true) (w2 : (Lit.int .i64 a2).wf = true) (w3 : (Lit.int .i64 a3).wf = true) :
    Calls Try.prog 4 #[.slice a0 len0 cap0, .int .i64 a1, .int .i64 a2, .int .i64 a3] w fun e w' => e = .returned (.bool true) ∧ Below w.heap.size w w' := by
  have hm : len0 ≤ 9223372036854775807 := by
    rcases w0 with ⟨_, rfl, _, _⟩ | ⟨x, _, h1, h2, _⟩
    · omega
    · unfold maxLen at h2; omega
  by_cases hbig : 1048576 < len0
  · clear w0 w1 w2 w3
    go_enter Try.func4, Try.ntmps4
    go_wp2
    go_ret
    exact ⟨rfl, Below.refl _ _⟩
  · by_cases hb2 : 65536 < len0
    · clear w0 w1 w2 w3
      go_enter Try.func4, Try.ntmps4
      go_wp2
      go_ret
      exact ⟨rfl, Below.refl _ _⟩
    · have hn2 : len0 ≤ 65536 := by omega
      by_cases hr : 0 ≤ a1 ∧ a1 < (len0 : Int) ∧ 0 ≤ a2 ∧ a2 < (len0 : Int) ∧ 0 ≤ a3 ∧ a3 < (len0 : Int)
      · obtain ⟨h1, h2, h3, h4, h5, h6⟩ := hr
        rcases w0 with ⟨_, rfl, _, _⟩ | ⟨x, rfl, hl, _, hz, hcell, _⟩
        · omega
        · obtain ⟨s, off, spot⟩ := x
          have hspot : spot = none := by simpa [Addr.add] using World.cell?_spot (hcell 0 (by omega))
          subst hspot
          obtain ⟨a, rfl⟩ : ∃ a : Nat, a1 = (a : Int) := ⟨a1.toNat, by omega⟩
          obtain ⟨b, rfl⟩ : ∃ b : Nat, a2 = (b : Int) := ⟨a2.toNat, by omega⟩
          obtain ⟨c, rfl⟩ : ∃ c : Nat, a3 = (c : Int) := ⟨a3.toNat, by omega⟩
          have hc : ∀ i, i < len0 → w.cell? ⟨s, off + i, none⟩ = some (.int .i64 ((fun i => z0.getD i 0) i)) := fun i hi => by
            rw [← add_plain]; exact hcell i (by omega)
          have hsl : s < w.heap.size := cell_lt (hc 0 (by omega))
          have hn1 : 1 ≤ len0 := by omega
          exact core s off len0 cap0 (fun i => z0.getD i 0) a b c w hn1 hn2 hsl hc (by omega) (by omega) (by omega) _ _ _ _ _ _ _ _ rfl rfl (law_self hn1 a) (law_source hn1 a) rfl rfl rfl rfl rfl rfl
            (law_only hn1 a b) (law_trans hn1 a b c) (law_antisymm hn1 a b) (law_chain hn1 a b c)
      · clear w0 w1 w2 w3
        by_cases c1 : a1 < 0
        · clear hr
          go_enter Try.func4, Try.ntmps4
          go_wp2
          go_ret
          exact ⟨rfl, Below.refl _ _⟩
        · by_cases c2 : (len0 : Int) ≤ a1
          · clear hr
            go_enter Try.func4, Try.ntmps4
            go_wp2
            go_ret
            exact ⟨rfl, Below.refl _ _⟩
          · by_cases c3 : a2 < 0
            · clear hr
              go_enter Try.func4, Try.ntmps4
              go_wp2
              go_ret
              exact ⟨rfl, Below.refl _ _⟩
            · by_cases c4 : (len0 : Int) ≤ a2
              · clear hr
                go_enter Try.func4, Try.ntmps4
                go_wp2
                go_ret
                exact ⟨rfl, Below.refl _ _⟩
              · by_cases c5 : a3 < 0
                · clear hr
                  go_enter Try.func4, Try.ntmps4
                  go_wp2
                  go_ret
                  exact ⟨rfl, Below.refl _ _⟩
                · have c6 : (len0 : Int) ≤ a3 := by omega
                  clear hr
                  go_enter Try.func4, Try.ntmps4
                  go_wp2
                  go_ret
                  exact ⟨rfl, Below.refl _ _⟩

/-! ### THE ROW's STEP: WRITTEN OUT: LEAVE IT -/
set_option maxRecDepth 100000 in
theorem lifted (os : Os) (started : os.Started) (H : Type) (enc : TypeId × Value → H) :
    ReturnsInHanded {} Try.checked os 4 .any (Rows.fnDominatesIsAChainOrderSpec.pre6 enc Try.prog Try.f4 Rows.fnDominatesIsAChainOrderRow.domain false) (Rows.fnDominatesIsAChainOrderSpec.post enc Try.prog Try.f4 false true false false) := by
  refine returnsInHanded_of_change (C := Try.checked) own started (by kernel_rfl) Try.func4
    (ChangeSpec.witness6 (enc := enc) (C := Try.checked) false ⟨#[], #[.slice none 0 0, .int .i64 0, .int .i64 0, .int .i64 0], []⟩ 8 (by kernel_rfl) (by kernel_rfl) (by kernel_rfl) (by kernel_rfl)) ?_
  intro W base args ds gs before hval0 hW hcnd _
  have hval : ∀ (j : Nat) t v, Try.f4.params[j]? = some t → args[j]? = some v → Value.okWide Try.prog W .any base t v := hval0
  have hW' := hW
  obtain ⟨p, q, hA0, hV, rfl, hfz, hnd⟩ := hW
  have hA : DataW.TrodAll enc Try.prog W 0 (fun _ => true) true Try.f4.params.toList args.toList ds p := hA0
  rw [Try.params4] at hA hval
  obtain ⟨v0, vs0, d0, ds0, p0, q0, hargs, rfl, rfl, h0, r0⟩ := trodAll_cons hA
  obtain ⟨v1, vs1, d1, ds1, p1, q1, rfl, rfl, rfl, h1, r1⟩ := trodAll_cons r0
  obtain ⟨v2, vs2, d2, ds2, p2, q2, rfl, rfl, rfl, h2, r2⟩ := trodAll_cons r1
  obtain ⟨v3, vs3, d3, ds3, p3, q3, rfl, rfl, rfl, h3, r3⟩ := trodAll_cons r2
  obtain ⟨rfl, rfl, rfl⟩ := trodAll_nil r3
  obtain rfl : args = #[v0, v1, v2, v3] := by cases args; simp_all
  obtain ⟨rfl, rfl⟩ := trodVars_none hV
  obtain ⟨a0, len0, cap0, rfl⟩ := okWide_slice Try.underlying22 (hval 0 22 v0 rfl rfl)
  have k0 := h0
  have lt0 : ∀ x ∈ p0, x.block < W.heap.size := by obtain ⟨m, hm⟩ := k0; exact DataW.trod_lt m _ _ _ hm
  obtain ⟨z0, w0⟩ : ∃ zs, IsRow .i64 W a0 len0 cap0 zs := by
    obtain ⟨fuel, hf⟩ := h0
    rcases open_ints Try.underlying22 Try.underlying3 (by kernel_rfl) hf with ⟨hcs, _⟩ | ⟨x, l, c, zs, hcs, _, hl, hm, hz, _, hcell, hwz⟩
    · simp [Value.cells] at hcs
      obtain ⟨rfl, rfl, rfl⟩ := hcs
      exact ⟨[], .inl ⟨rfl, rfl, rfl, rfl⟩⟩
    · simp [Value.cells] at hcs
      obtain ⟨rfl, rfl, rfl⟩ := hcs
      exact ⟨zs, .inr ⟨_, rfl, hl, hm, by simpa using hz, hcell, hwz⟩⟩
  obtain ⟨a1, rfl, rfl, rfl, w1⟩ := open_int Try.underlying3 (hval 1 3 v1 rfl rfl) h1
  obtain ⟨a2, rfl, rfl, rfl, w2⟩ := open_int Try.underlying3 (hval 2 3 v2 rfl rfl) h2
  obtain ⟨a3, rfl, rfl, rfl, w3⟩ := open_int Try.underlying3 (hval 3 3 v3 rfl rfl) h3
  clear hA0 hval0
  refine (walk a0 len0 cap0 z0 a1 a2 a3 W w0 w1 w2 w3).mono fun e W' ⟨he, bel⟩ => ?_
  subst he
  exact ⟨_, rfl, _, _, _, [], _, [], hW', trodAll_mk1 (shut_bool Try.underlying4 _), (trodAll_cons_mk (Below.trod laidOut (by kernel_rfl) (of_decide_eq_true (by kernel_rfl)) k0 bel lt0) (trodAll_cons_mk (shut_int Try.underlying3 w1) (trodAll_cons_mk (shut_int Try.underlying3 w2) (trodAll_cons_mk (shut_int Try.underlying3 w3) trodAll_mk0)))), rfl, bel.frame _, fun h => by cases h⟩

theorem over : Rows.fnDominatesIsAChainOrderRow.holds Try.pinned (OpenSpec.ofChange Rows.fnDominatesIsAChainOrderSpec) :=
  OpenClaim.holds_of_wide 4 Try.f4 rfl rfl rfl rfl rfl rfl rfl ⟨rfl, rfl, rfl, rfl, rfl⟩ rfl rfl rfl rfl rfl (by kernel_rfl) Try.func4 (by kernel_rfl)
    (of_decide_eq_true (by kernel_rfl)) (by unfold Func.isWrapper; first | (rw [if_pos (by decide +kernel)]; kernel_rfl) | (rw [if_neg (by decide +kernel)]; exact ⟨rfl, rfl⟩))
    (fun os started H enc _ => lifted os started H enc)

/-- ████ THE STATEMENT ████ -/
theorem proved : Rows.FnDominatesIsAChainOrderSaid := over
#print axioms proved
end Go.Proofs.Qxb6618787a.fnDominatesIsAChainOrder
