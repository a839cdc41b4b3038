/-
  A PROOF OF 'Rows.FnDominatesStepsUpTheTreeSaid' ('example.com/ramify/ramify/zzlaws_root_b1.FnDominatesStepsUpTheTree'), WRITTEN BY PROGRAM (proof-skeleton.mjs, third state) off the guide's own print for that function. Not trusted: Lean checks it.
  The frame is the guide's template at this function's number and types; the walk is ours.
-/
import Derived.Test.Qxb6618787aRows
import Derived.WalkKit
import Derived.ProofKit
import Derived.OpenShut
import Derived.ShutString
import Derived.ChangeOld
import Derived.Below
import Derived.Test.Qxb6618787aDom
namespace Go.Proofs.Qxb6618787a.fnDominatesStepsUpTheTree
open Go.ChangeShapes Go.WideShapes Go.ChangeAt Go.RowKit
open Go.ChangeMaps (open_string shut_string)
open Go.Deep Go.Proofs.Qxb6618787a.Tree
set_option linter.unusedVariables false

theorem own : ownKnob Try.prog.godebug = none := by kernel_rfl
theorem laidOut : laidOutB Try.prog = true := by kernel_rfl

/-- WHAT THE WALK IS TOLD OF A SLICE OF INTEGERS THAT CAME IN: it is nil; or it leads to a row of 'cap' cells, the numbers 'zs' (the first 'len' are its elements, the rest its spare room), each fitting its kind. -/
def IsRow (k : IntKind) (w : World) (a : Option Addr) (len cap : Nat) (zs : List Int) : Prop :=
  (a = none ∧ len = 0 ∧ cap = 0 ∧ zs = []) ∨
  ∃ x, a = some x ∧ len ≤ cap ∧ cap ≤ maxLen ∧ zs.length = cap ∧ (∀ i, i < zs.length → w.cell? (x.add i) = some (.int k (zs.getD i 0))) ∧ ∀ n ∈ zs, (Lit.int k n).wf = true

/-! ### STEP 1: THE WALK -/
set_option maxHeartbeats 1000000

/-- The vertex c is not reached. -/
theorem core_far (b off n cap : Nat) (par : Nat → Int) (a c : Nat) (w : World) (hn1 : 1 ≤ n) (hn2 : n ≤ 65536) (hb : b < w.heap.size) (hc : ∀ i, i < n → w.cell? ⟨b, off + i, none⟩ = some (.int .i64 (par i))) (ha : a < n) (hcn : c < n)
    (hg : Hid (domB n par a c = false)) (hr : Hid (rr n par (n + 1) (c : Int) = false)) (h0 : Hid (domB n par 0 c = false)) :
    Calls Try.prog 3 #[.slice (some ⟨b, off, none⟩) n cap, .int .i64 (a : Int), .int .i64 (c : Int)] w fun e w' => e = .returned (.bool true) ∧ Below w.heap.size w w' := by
  go_enter Try.func3, Try.ntmps3
  go_wp2_with fail
  refine (bytes6 _ _ _ _ _ _ hn2).mono ?_
  rintro e w' ⟨rfl, rfl⟩
  go_wp2_with fail
  refine (number_any b off n cap par _ hn1 hn2 hb hc).mono ?_
  rintro e w1 ⟨rfl, hbel, hpre, hpost⟩
  go_wp2_with fail
  refine (new_any _ _ _ _ _ _ _ _ _ rfl rfl).mono ?_
  rintro e w2 ⟨rfl, rfl⟩
  obtain ⟨hT, hB, hC⟩ := tree_made hb hbel hpre hpost hc
  clear hbel hpre hpost hc
  generalize w1.heap.size = D at *
  generalize w1.alloc _ = W at *
  have HT : Hid (IsTree D w'.heap.size (w'.heap.size + 1) n (preV n par) (postV n par) W) := hT
  have HB : Hid (Below w'.heap.size w' W) := hB
  have HC : Hid (∀ i, i < n → W.cell? ⟨b, off + i, none⟩ = some (.int .i64 (par i))) := hC
  clear hT hB hC
  go_wp2_with fail
  refine (zzdom_at HT.out a c _ _ rfl rfl ha hcn false hg.out 0).mono ?_
  rintro e w3 ⟨rfl, q3, rfl⟩
  go_wp2_with fail
  refine (reach_at _ HC.out false hr.out q3 (fun v w hw => reach_any b off n cap par v w hn2 hw)).mono ?_
  rintro e w4 ⟨rfl, q4, rfl⟩
  go_wp2_with fail
  refine (zzdom_at HT.out 0 c _ _ rfl rfl hn1 hcn false h0.out q4).mono ?_
  rintro e w5 ⟨rfl, q5, rfl⟩
  go_wp2_with fail
  go_ret
  exact ⟨rfl, below_drewN HB.out _⟩

/-- c is the source. -/
theorem core_root (b off n cap : Nat) (par : Nat → Int) (a c : Nat) (w : World) (hn1 : 1 ≤ n) (hn2 : n ≤ 65536) (hb : b < w.heap.size) (hc : ∀ i, i < n → w.cell? ⟨b, off + i, none⟩ = some (.int .i64 (par i))) (ha : a < n) (hcn : c < n) (hz : ((c : Int) == 0) = true) (g : Bool) (hgz : ((a : Int) == 0) = g)
    (hg : Hid (domB n par a c = g)) (hr : Hid (rr n par (n + 1) (c : Int) = true)) (h0 : Hid (domB n par 0 c = true)) :
    Calls Try.prog 3 #[.slice (some ⟨b, off, none⟩) n cap, .int .i64 (a : Int), .int .i64 (c : Int)] w fun e w' => e = .returned (.bool true) ∧ Below w.heap.size w w' := by
  cases g
  all_goals
    go_enter Try.func3, Try.ntmps3
    go_wp2_with fail
    refine (bytes6 _ _ _ _ _ _ hn2).mono ?_
    rintro e w' ⟨rfl, rfl⟩
    go_wp2_with fail
    refine (number_any b off n cap par _ hn1 hn2 hb hc).mono ?_
    rintro e w1 ⟨rfl, hbel, hpre, hpost⟩
    go_wp2_with fail
    refine (new_any _ _ _ _ _ _ _ _ _ rfl rfl).mono ?_
    rintro e w2 ⟨rfl, rfl⟩
    obtain ⟨hT, hB, hC⟩ := tree_made hb hbel hpre hpost hc
    clear hbel hpre hpost hc
    generalize w1.heap.size = D at *
    generalize w1.alloc _ = W at *
    have HT : Hid (IsTree D w'.heap.size (w'.heap.size + 1) n (preV n par) (postV n par) W) := hT
    have HB : Hid (Below w'.heap.size w' W) := hB
    have HC : Hid (∀ i, i < n → W.cell? ⟨b, off + i, none⟩ = some (.int .i64 (par i))) := hC
    clear hT hB hC
    go_wp2_with fail
    refine (zzdom_at HT.out a c _ _ rfl rfl ha hcn _ hg.out 0).mono ?_
    rintro e w3 ⟨rfl, q3, rfl⟩
    go_wp2_with fail
    refine (reach_at _ HC.out true hr.out q3 (fun v w hw => reach_any b off n cap par v w hn2 hw)).mono ?_
    rintro e w4 ⟨rfl, q4, rfl⟩
    go_wp2_with fail
    refine (zzdom_at HT.out 0 c _ _ rfl rfl hn1 hcn true h0.out q4).mono ?_
    rintro e w5 ⟨rfl, q5, rfl⟩
    go_wp2_with fail
    go_ret
    exact ⟨rfl, below_drewN HB.out _⟩

/-- c is reached and not the source; a is c. -/
theorem core_same (b off n cap : Nat) (par : Nat → Int) (a c : Nat) (w : World) (hn1 : 1 ≤ n) (hn2 : n ≤ 65536) (hb : b < w.heap.size) (hc : ∀ i, i < n → w.cell? ⟨b, off + i, none⟩ = some (.int .i64 (par i))) (ha : a < n) (hcn : c < n) (hz : ((c : Int) == 0) = false) (hac : ((a : Int) == (c : Int)) = true)
    (hg : Hid (domB n par a c = true)) (hr : Hid (rr n par (n + 1) (c : Int) = true)) (h0 : Hid (domB n par 0 c = true)) :
    Calls Try.prog 3 #[.slice (some ⟨b, off, none⟩) n cap, .int .i64 (a : Int), .int .i64 (c : Int)] w fun e w' => e = .returned (.bool true) ∧ Below w.heap.size w w' := by
  go_enter Try.func3, Try.ntmps3
  go_wp2_with fail
  refine (bytes6 _ _ _ _ _ _ hn2).mono ?_
  rintro e w' ⟨rfl, rfl⟩
  go_wp2_with fail
  refine (number_any b off n cap par _ hn1 hn2 hb hc).mono ?_
  rintro e w1 ⟨rfl, hbel, hpre, hpost⟩
  go_wp2_with fail
  refine (new_any _ _ _ _ _ _ _ _ _ rfl rfl).mono ?_
  rintro e w2 ⟨rfl, rfl⟩
  obtain ⟨hT, hB, hC⟩ := tree_made hb hbel hpre hpost hc
  clear hbel hpre hpost hc
  generalize w1.heap.size = D at *
  generalize w1.alloc _ = W at *
  have HT : Hid (IsTree D w'.heap.size (w'.heap.size + 1) n (preV n par) (postV n par) W) := hT
  have HB : Hid (Below w'.heap.size w' W) := hB
  have HC : Hid (∀ i, i < n → W.cell? ⟨b, off + i, none⟩ = some (.int .i64 (par i))) := hC
  clear hT hB hC
  go_wp2_with fail
  refine (zzdom_at HT.out a c _ _ rfl rfl ha hcn true hg.out 0).mono ?_
  rintro e w3 ⟨rfl, q3, rfl⟩
  go_wp2_with fail
  refine (reach_at _ HC.out true hr.out q3 (fun v w hw => reach_any b off n cap par v w hn2 hw)).mono ?_
  rintro e w4 ⟨rfl, q4, rfl⟩
  go_wp2_with fail
  refine (zzdom_at HT.out 0 c _ _ rfl rfl hn1 hcn true h0.out q4).mono ?_
  rintro e w5 ⟨rfl, q5, rfl⟩
  go_wp2_with fail
  go_ret
  exact ⟨rfl, below_drewN HB.out _⟩

/-- c is reached and not the source; a is another. -/
theorem core_up (b off n cap : Nat) (par : Nat → Int) (a c : Nat) (w : World) (hn1 : 1 ≤ n) (hn2 : n ≤ 65536) (hb : b < w.heap.size) (hc : ∀ i, i < n → w.cell? ⟨b, off + i, none⟩ = some (.int .i64 (par i))) (ha : a < n) (hcn : c < n) (p : Nat) (hpn : p < n) (hp : Hid (par c = (p : Int))) (hz : ((c : Int) == 0) = false) (hac : ((a : Int) == (c : Int)) = false) (g : Bool)
    (hg : Hid (domB n par a c = g)) (hgp : Hid (domB n par a p = g)) (hr : Hid (rr n par (n + 1) (c : Int) = true)) (h0 : Hid (domB n par 0 c = true)) :
    Calls Try.prog 3 #[.slice (some ⟨b, off, none⟩) n cap, .int .i64 (a : Int), .int .i64 (c : Int)] w fun e w' => e = .returned (.bool true) ∧ Below w.heap.size w w' := by
  cases g
  all_goals
    go_enter Try.func3, Try.ntmps3
    go_wp2_with fail
    refine (bytes6 _ _ _ _ _ _ hn2).mono ?_
    rintro e w' ⟨rfl, rfl⟩
    go_wp2_with fail
    refine (number_any b off n cap par _ hn1 hn2 hb hc).mono ?_
    rintro e w1 ⟨rfl, hbel, hpre, hpost⟩
    go_wp2_with fail
    refine (new_any _ _ _ _ _ _ _ _ _ rfl rfl).mono ?_
    rintro e w2 ⟨rfl, rfl⟩
    obtain ⟨hT, hB, hC⟩ := tree_made hb hbel hpre hpost hc
    clear hbel hpre hpost hc
    generalize w1.heap.size = D at *
    generalize w1.alloc _ = W at *
    have HT : Hid (IsTree D w'.heap.size (w'.heap.size + 1) n (preV n par) (postV n par) W) := hT
    have HB : Hid (Below w'.heap.size w' W) := hB
    have HC : Hid (∀ i, i < n → W.cell? ⟨b, off + i, none⟩ = some (.int .i64 (par i))) := hC
    clear hT hB hC
    go_wp2_with fail
    refine (zzdom_at HT.out a c _ _ rfl rfl ha hcn _ hg.out 0).mono ?_
    rintro e w3 ⟨rfl, q3, rfl⟩
    go_wp2_with fail
    refine (reach_at _ HC.out true hr.out q3 (fun v w hw => reach_any b off n cap par v w hn2 hw)).mono ?_
    rintro e w4 ⟨rfl, q4, rfl⟩
    go_wp2_with fail
    refine (zzdom_at HT.out 0 c _ _ rfl rfl hn1 hcn true h0.out q4).mono ?_
    rintro e w5 ⟨rfl, q5, rfl⟩
    have hpc : (W.drewN q5).cell? ⟨b, off + c, none⟩ = some (.int .i64 (p : Int)) := by rw [← hp.out]; exact HC.out c hcn
    have hpc2 : W.cell? ⟨b, off + c, none⟩ = some (.int .i64 (p : Int)) := hpc
    go_wp2_with fail
    refine (zzdom_at HT.out a p _ _ rfl rfl ha hpn _ hgp.out _).mono ?_
    rintro e w6 ⟨rfl, q6, rfl⟩
    go_wp2_with fail
    go_ret
    exact ⟨rfl, below_drewN HB.out _⟩

theorem core (b off n cap : Nat) (par : Nat → Int) (a c : Nat) (w : World) (hn1 : 1 ≤ n) (hn2 : n ≤ 65536) (hb : b < w.heap.size) (hc : ∀ i, i < n → w.cell? ⟨b, off + i, none⟩ = some (.int .i64 (par i))) (ha : a < n) (hcn : c < n) :
    Calls Try.prog 3 #[.slice (some ⟨b, off, none⟩) n cap, .int .i64 (a : Int), .int .i64 (c : Int)] w fun e w' => e = .returned (.bool true) ∧ Below w.heap.size w w' := by
  have h0 := law_source (par := par) hn1 c
  cases hr : rr n par (n + 1) (c : Int) with
  | false =>
    rw [hr] at h0
    exact core_far b off n cap par a c w hn1 hn2 hb hc ha hcn (law_unreached hn1 a c hr) hr h0
  | true =>
    rw [hr] at h0
    by_cases hz : c = 0
    · subst hz
      refine core_root b off n cap par a 0 w hn1 hn2 hb hc ha hcn rfl _ rfl ?_ hr h0
      show domB n par a 0 = _
      rw [law_root hn1 a]
      by_cases ha0 : a = 0
      · subst ha0; rfl
      · rw [decide_eq_false ha0]
        symm
        simp
        omega
    · obtain ⟨p, hp, hpn⟩ := reached_parent hn1 hr hz
      have hst := law_step hn1 a c p hr hz hp
      have hz' : ((c : Int) == 0) = false := by simp; omega
      by_cases hac : a = c
      · refine core_same b off n cap par a c w hn1 hn2 hb hc ha hcn hz' (by rw [hac]; simp) ?_ hr h0
        show domB n par a c = true
        rw [hst, decide_eq_true hac]
        rfl
      · refine core_up b off n cap par a c w hn1 hn2 hb hc ha hcn p hpn hp hz' (by simp; omega) _ ?_ rfl hr h0
        show domB n par a c = _
        rw [hst, decide_eq_false hac]
        rfl

theorem walk (a0 : Option Addr) (len0 cap0 : Nat) (z0 : List Int) (a1 : Int) (a2 : Int) (w : World) (w0 : IsRow .i64 w a0 len0 cap0 z0) (w1 : (Lit.int .i64 a1).wf = true) (w2 : (Lit.int .i64 a2).wf = true) :
    Calls Try.prog 3 #[.slice a0 len0 cap0, .int .i64 a1, .int .i64 a2] w fun e w' => e = .returned (.bool true) ∧ Below w.heap.size w w' := by
  have hm : len0 ≤ 9223372036854775807 := by
    rcases w0 with ⟨_, rfl, _, _⟩ | ⟨x, _, h1, h2, _⟩
    · omega
    · unfold maxLen at h2; omega
  by_cases hbig : 1048576 < len0
  · clear w0 w1 w2
    go_enter Try.func3, Try.ntmps3
    go_wp2
    go_ret
    exact ⟨rfl, Below.refl _ _⟩
  · by_cases hb2 : 65536 < len0
    · clear w0 w1 w2
      go_enter Try.func3, Try.ntmps3
      go_wp2
      go_ret
      exact ⟨rfl, Below.refl _ _⟩
    · have hn2 : len0 ≤ 65536 := by omega
      by_cases hr : 0 ≤ a1 ∧ a1 < (len0 : Int) ∧ 0 ≤ a2 ∧ a2 < (len0 : Int)
      · obtain ⟨h1, h2, h3, h4⟩ := hr
        rcases w0 with ⟨_, rfl, _, _⟩ | ⟨x, rfl, hl, _, hz, hcell, _⟩
        · omega
        · obtain ⟨b, off, spot⟩ := x
          have hspot : spot = none := by simpa [Addr.add] using World.cell?_spot (hcell 0 (by omega))
          subst hspot
          obtain ⟨a, rfl⟩ : ∃ a : Nat, a1 = (a : Int) := ⟨a1.toNat, by omega⟩
          obtain ⟨c, rfl⟩ : ∃ c : Nat, a2 = (c : Int) := ⟨a2.toNat, by omega⟩
          have hc : ∀ i, i < len0 → w.cell? ⟨b, off + i, none⟩ = some (.int .i64 ((fun i => z0.getD i 0) i)) := fun i hi => by
            rw [← add_plain]; exact hcell i (by omega)
          have hbl : b < w.heap.size := cell_lt (hc 0 (by omega))
          exact core b off len0 cap0 _ a c w (by omega) hn2 hbl hc (by omega) (by omega)
      · clear w0 w1 w2
        by_cases c1 : a1 < 0
        · go_enter Try.func3, Try.ntmps3
          go_wp2
          go_ret
          exact ⟨rfl, Below.refl _ _⟩
        · by_cases c2 : (len0 : Int) ≤ a1
          · go_enter Try.func3, Try.ntmps3
            go_wp2
            go_ret
            exact ⟨rfl, Below.refl _ _⟩
          · by_cases c3 : a2 < 0
            · clear hr
              go_enter Try.func3, Try.ntmps3
              go_wp2
              go_ret
              exact ⟨rfl, Below.refl _ _⟩
            · have c4 : (len0 : Int) ≤ a2 := by omega
              clear hr
              go_enter Try.func3, Try.ntmps3
              go_wp2
              go_ret
              exact ⟨rfl, Below.refl _ _⟩

/-! ### THE ROW's STEP: WRITTEN OUT: LEAVE IT -/
set_option maxRecDepth 100000 in
theorem lifted (os : Os) (started : os.Started) (H : Type) (enc : TypeId × Value → H) :
    ReturnsInHanded {} Try.checked os 3 .any (Rows.fnDominatesStepsUpTheTreeSpec.pre6 enc Try.prog Try.f3 Rows.fnDominatesStepsUpTheTreeRow.domain false) (Rows.fnDominatesStepsUpTheTreeSpec.post enc Try.prog Try.f3 false true false false) := by
  refine returnsInHanded_of_change (C := Try.checked) own started (by kernel_rfl) Try.func3
    (ChangeSpec.witness6 (enc := enc) (C := Try.checked) false ⟨#[], #[.slice none 0 0, .int .i64 0, .int .i64 0], []⟩ 8 (by kernel_rfl) (by kernel_rfl) (by kernel_rfl) (by kernel_rfl)) ?_
  intro W base args ds gs before hval0 hW hcnd _
  have hval : ∀ (j : Nat) t v, Try.f3.params[j]? = some t → args[j]? = some v → Value.okWide Try.prog W .any base t v := hval0
  have hW' := hW
  obtain ⟨p, q, hA0, hV, rfl, hfz, hnd⟩ := hW
  have hA : DataW.TrodAll enc Try.prog W 0 (fun _ => true) true Try.f3.params.toList args.toList ds p := hA0
  rw [Try.params3] at hA hval
  obtain ⟨v0, vs0, d0, ds0, p0, q0, hargs, rfl, rfl, h0, r0⟩ := trodAll_cons hA
  obtain ⟨v1, vs1, d1, ds1, p1, q1, rfl, rfl, rfl, h1, r1⟩ := trodAll_cons r0
  obtain ⟨v2, vs2, d2, ds2, p2, q2, rfl, rfl, rfl, h2, r2⟩ := trodAll_cons r1
  obtain ⟨rfl, rfl, rfl⟩ := trodAll_nil r2
  obtain rfl : args = #[v0, v1, v2] := by cases args; simp_all
  obtain ⟨rfl, rfl⟩ := trodVars_none hV
  obtain ⟨a0, len0, cap0, rfl⟩ := okWide_slice Try.underlying22 (hval 0 22 v0 rfl rfl)
  have k0 := h0
  have lt0 : ∀ x ∈ p0, x.block < W.heap.size := by obtain ⟨m, hm⟩ := k0; exact DataW.trod_lt m _ _ _ hm
  obtain ⟨z0, w0⟩ : ∃ zs, IsRow .i64 W a0 len0 cap0 zs := by
    obtain ⟨fuel, hf⟩ := h0
    rcases open_ints Try.underlying22 Try.underlying3 (by kernel_rfl) hf with ⟨hcs, _⟩ | ⟨x, l, c, zs, hcs, _, hl, hm, hz, _, hcell, hwz⟩
    · simp [Value.cells] at hcs
      obtain ⟨rfl, rfl, rfl⟩ := hcs
      exact ⟨[], .inl ⟨rfl, rfl, rfl, rfl⟩⟩
    · simp [Value.cells] at hcs
      obtain ⟨rfl, rfl, rfl⟩ := hcs
      exact ⟨zs, .inr ⟨_, rfl, hl, hm, by simpa using hz, hcell, hwz⟩⟩
  obtain ⟨a1, rfl, rfl, rfl, w1⟩ := open_int Try.underlying3 (hval 1 3 v1 rfl rfl) h1
  obtain ⟨a2, rfl, rfl, rfl, w2⟩ := open_int Try.underlying3 (hval 2 3 v2 rfl rfl) h2
  clear hA0 hval0
  refine (walk a0 len0 cap0 z0 a1 a2 W w0 w1 w2).mono fun e W' ⟨he, bel⟩ => ?_
  subst he
  exact ⟨_, rfl, _, _, _, [], _, [], hW', trodAll_mk1 (shut_bool Try.underlying4 _), (trodAll_cons_mk (Below.trod laidOut (by kernel_rfl) (of_decide_eq_true (by kernel_rfl)) k0 bel lt0) (trodAll_cons_mk (shut_int Try.underlying3 w1) (trodAll_cons_mk (shut_int Try.underlying3 w2) trodAll_mk0))), rfl, bel.frame _, fun h => by cases h⟩

theorem over : Rows.fnDominatesStepsUpTheTreeRow.holds Try.pinned (OpenSpec.ofChange Rows.fnDominatesStepsUpTheTreeSpec) :=
  OpenClaim.holds_of_wide 3 Try.f3 rfl rfl rfl rfl rfl rfl rfl ⟨rfl, rfl, rfl, rfl, rfl⟩ rfl rfl rfl rfl rfl (by kernel_rfl) Try.func3 (by kernel_rfl)
    (of_decide_eq_true (by kernel_rfl)) (by unfold Func.isWrapper; first | (rw [if_pos (by decide +kernel)]; kernel_rfl) | (rw [if_neg (by decide +kernel)]; exact ⟨rfl, rfl⟩))
    (fun os started H enc _ => lifted os started H enc)

/-- ████ THE STATEMENT ████ -/
theorem proved : Rows.FnDominatesStepsUpTheTreeSaid := over
#print axioms proved
end Go.Proofs.Qxb6618787a.fnDominatesStepsUpTheTree
