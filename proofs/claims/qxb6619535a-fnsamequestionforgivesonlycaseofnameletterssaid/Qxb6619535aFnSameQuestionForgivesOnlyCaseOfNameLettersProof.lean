/-
  A PROOF OF 'Rows.FnSameQuestionForgivesOnlyCaseOfNameLettersSaid' ('example.com/waymark/waymark/zzlaws_internal_dnswire_b1.FnSameQuestionForgivesOnlyCaseOfNameLetters'), ITS FRAME WRITTEN BY PROGRAM (proof-skeleton.mjs, third state) off the guide's own print for that function. Not trusted: Lean checks it.
  The frame is the guide's template at this function's number and types; the walk is ours.
-/
import Derived.Test.Qxb6619535aRows
import Derived.WalkKit
import Derived.ProofKit
import Derived.OpenShut
import Derived.ShutString
import Derived.ChangeOld
import Derived.Below
import Derived.Test.Qxb6619535aSame
import Derived.Laws.CopyRow
import Derived.Laws.IdiomCopy
namespace Go.Proofs.Qxb6619535a.fnSameQuestionForgivesOnlyCaseOfNameLetters
open Go.ChangeShapes Go.WideShapes Go.ChangeAt Go.RowKit
open Go.ChangeMaps (open_string shut_string)
open Go.Deep
set_option linter.unusedVariables false

theorem own : ownKnob Try.prog.godebug = none := by kernel_rfl
theorem laidOut : laidOutB Try.prog = true := by kernel_rfl

/-- WHAT THE WALK IS TOLD OF A SLICE OF INTEGERS THAT CAME IN: it is nil; or it leads to a row of 'cap' cells, the numbers 'zs' (the first 'len' are its elements, the rest its spare room), each fitting its kind. -/
def IsRow (k : IntKind) (w : World) (a : Option Addr) (len cap : Nat) (zs : List Int) : Prop :=
  (a = none ∧ len = 0 ∧ cap = 0 ∧ zs = []) ∨
  ∃ x, a = some x ∧ len ≤ cap ∧ cap ≤ maxLen ∧ zs.length = cap ∧ (∀ i, i < zs.length → w.cell? (x.add i) = some (.int k (zs.getD i 0))) ∧ ∀ n ∈ zs, (Lit.int k n).wf = true

/-! ### STEP 1: THE WALK -/
set_option maxHeartbeats 4000000

theorem info5 : (Try.prog.info? 5).map (fun i => (i.zero, i.size, i.bytes)) = some (some (.int .u8 0), 1, 1) := by kernel_rfl
theorem size5 : (Try.prog.info? 5).map (·.size) = some 1 := by kernel_rfl

theorem cell_lt {w : World} {a : Addr} {v : Value} (h : w.cell? a = some v) : a.block < w.heap.size := by
  by_cases hlt : a.block < w.heap.size
  · exact hlt
  · exfalso
    unfold World.cell? at h
    rw [Array.getElem?_eq_none (by omega)] at h
    cases h

theorem below_drewN {B : Nat} {w w' : World} (h : Below B w w') (q : Nat) : Below B w (w'.drewN q) := by
  induction q with
  | zero => exact h
  | succ q ih => exact ih.drew

theorem octet {x : Int} (h : (Lit.int .u8 x).wf = true) : 0 ≤ x ∧ x ≤ 255 := by
  simp only [Lit.wf, IntKind.min, IntKind.max, IntKind.signed, IntKind.bits, Bool.and_eq_true] at h
  simp at h
  omega

theorem oct_of {w : World} {s off len cap : Nat} {zs : List Int} (hl : len ≤ cap) (hz : zs.length = cap) (hcell : ∀ i, i < zs.length → w.cell? ((⟨s, off, none⟩ : Addr).add i) = some (.int .u8 (zs.getD i 0))) (hwf : ∀ n ∈ zs, (Lit.int .u8 n).wf = true) :
    Oct w (some ⟨s, off, none⟩) len s off (fun i => zs.getD i 0) :=
  ⟨fun _ => rfl, fun i hi => by rw [← add_plain]; exact hcell i (by omega), fun i hi => octet (hwf _ (by
    have hi2 : i < zs.length := by omega
    simp only [List.getD, List.getElem?_eq_getElem hi2, Option.getD_some]
    exact List.getElem_mem hi2))⟩

/-- 'zzc := make([]byte, n); copy(zzc, a)': the world behind it. -/
theorem copied {w : World} {a : Option Addr} {n b o : Nat} {A : Nat → Int} (h : Oct w a n b o A) (cap : Nat) :
    ∃ w2, (∀ ty, (Builtin.copy_ #[25, 25] ty #[.slice (some ⟨w.heap.size, 0, none⟩) n n, .slice a n cap]).run Try.prog (w.alloc (.cells (madeCells #[.int .u8 0] n) 5)) = .ok (goInt n) w2) ∧
      w2.rowIs w.heap.size 5 n (fun j => .int .u8 (A j)) ∧ Below w.heap.size w w2 ∧ w2.heap.size = w.heap.size + 1 := by
  have hsz := nblk_alloc w (.cells (madeCells #[.int .u8 0] n) 5)
  have hbel : Below w.heap.size w (w.alloc (.cells (madeCells #[.int .u8 0] n) 5)) := (Below.refl _ _).alloc (Nat.le_refl _) _
  have hblk : (w.alloc (.cells (madeCells #[.int .u8 0] n) 5)).heap[w.heap.size]? = some (.cells (madeCells #[.int .u8 0] n) 5 (0, 0)) := blk_alloc_new _ _
  generalize w.alloc (.cells (madeCells #[.int .u8 0] n) 5) = w1 at *
  by_cases hn : n = 0
  · subst hn
    refine ⟨w1, fun ty => run_copy_none w1 25 25 ty 5 _ _ 0 0 0 cap Try.underlying25 size5 rfl, ⟨_, hblk, size_madeCells _ _, fun i hi => by omega⟩, hbel, hsz⟩
  · obtain rfl := h.addr (by omega)
    have hs : (madeCells #[Value.int .u8 0] n).size = n := size_madeCells _ _
    have hcell : ∀ j v, ((List.range n).map (fun j => Value.int .u8 (A j)))[j]? = some v → w1.cell? ((⟨b, o, none⟩ : Addr).add j) = some v := by
      intro j v hj
      obtain ⟨hlt, he⟩ := List.getElem?_eq_some_iff.1 hj
      simp at hlt he
      rw [add_plain, ← he, hbel.cell (cell_lt (h.cell j hlt))]
      exact h.cell j hlt
    have hrun := fun ty => run_copy_row (P := Try.prog) w1 25 25 ty 5 w.heap.size 0 n n ⟨b, o, none⟩ n cap (madeCells #[.int .u8 0] n) 5 ((List.range n).map (fun j => .int .u8 (A j))) Try.underlying25 size5 hblk
      (by simp) hcell (by simp [hs]) (fun v hv => by
        obtain ⟨j, _, rfl⟩ := List.mem_map.1 hv
        rfl)
    have hlen : ((List.range n).map (fun j => Value.int .u8 (A j))).length = n := by simp
    rw [hlen] at hrun
    refine ⟨_, hrun, ⟨_, setRow_heap w1 _ _ _ 5 _ hblk, ?_, ?_⟩, ?_, ?_⟩
    · simp [hs]
    · intro i hi
      simp [hs, hi]
    · exact hbel.trans ⟨rfl, rfl, rfl, by simp [World.setRow], fun k hk => setRow_other w1 _ k _ (by omega)⟩
    · rw [← hsz]; simp [World.setRow]

theorem Oct.row {w : World} {b n : Nat} {A : Nat → Int} (h : w.rowIs b 5 n (fun j => .int .u8 (A j))) (hA : ∀ j, j < n → 0 ≤ A j ∧ A j ≤ 255) : Oct w (some ⟨b, 0, none⟩) n b 0 A :=
  ⟨fun _ => rfl, fun i hi => by rw [Nat.zero_add]; exact h.cell hi, hA⟩

theorem Oct.below {w w' : World} {a : Option Addr} {n b o B : Nat} {A : Nat → Int} (h : Oct w a n b o A) (hb : Below B w w') (hB : w.heap.size ≤ B) : Oct w' a n b o A :=
  ⟨h.addr, fun i hi => by rw [hb.cell (by have := cell_lt (h.cell i hi); show b < B; have : b < w.heap.size := this; omega)]; exact h.cell i hi, h.rng⟩

theorem Oct.none {w : World} (b o : Nat) : Oct w Option.none 0 b o (fun _ => 0) := ⟨fun h => by omega, fun i hi => by omega, fun i hi => by omega⟩

theorem same_at {a a' : Option Addr} {n m c d b o b' o' : Nat} {A Q : Nat → Int} {W : World} (hn : n ≤ 1048576) (hm : m ≤ 1048576) (hc : n ≤ c) (hd : m ≤ d)
    (hA : Oct W a n b o A) (hQ : Oct W a' m b' o' Q) (g : Bool) (hg : sameB n m A Q = g) (q : Nat) :
    Calls Try.prog 8 #[.slice a n c, .slice a' m d] (W.drewN q) fun e w' => e = .returned (.bool g) ∧ ∃ q', w' = W.drewN q' := by
  refine (same_any hn hm hc hd (hA.drewN q) (hQ.drewN q)).mono ?_
  rintro e w' ⟨rfl, q', rfl⟩
  rw [hg]
  exact ⟨rfl, q + q', by rw [World.drewN_drewN]⟩

theorem bytes7 (a a' : Option Addr) (n c m d : Nat) (x y : Int) (w : World) (hn : n ≤ 524288) (hm : m ≤ 524288) :
    Calls Try.prog 7 #[.slice a n c, .slice a' m d, .int .i64 x, .int .u8 y] w fun e w' => e = .returned (.bool true) ∧ w' = w := by
  go_enter Try.func7, Try.ntmps7
  go_wp2
  go_ret
  exact ⟨rfl, rfl⟩

theorem bytes7_any (a a' : Option Addr) (n c m d : Nat) (x y : Int) (w : World) (hn : n ≤ 9223372036854775807) (hm : m ≤ 9223372036854775807) :
    ∃ r : Bool, Calls Try.prog 7 #[.slice a n c, .slice a' m d, .int .i64 x, .int .u8 y] w fun e w' => e = .returned (.bool r) ∧ w' = w := by
  by_cases h1 : 1048576 < n
  · refine ⟨false, ?_⟩
    go_enter Try.func7, Try.ntmps7
    go_wp2
    go_ret
    exact ⟨rfl, rfl⟩
  · by_cases h2 : 1048576 < m
    · refine ⟨false, ?_⟩
      go_enter Try.func7, Try.ntmps7
      go_wp2
      go_ret
      exact ⟨rfl, rfl⟩
    · by_cases h3 : 1048576 < n + m
      · refine ⟨false, ?_⟩
        go_enter Try.func7, Try.ntmps7
        go_wp2
        go_ret
        exact ⟨rfl, rfl⟩
      · refine ⟨true, ?_⟩
        go_enter Try.func7, Try.ntmps7
        go_wp2
        go_ret
        exact ⟨rfl, rfl⟩

/-- The early ways out. -/
theorem early (a a' : Option Addr) (n c m d : Nat) (i y : Int) (w : World) (hn : n ≤ 9223372036854775807) (hm : m ≤ 9223372036854775807) (hh : 524288 < n ∨ 524288 < m ∨ i < 0 ∨ (n : Int) ≤ i) :
    Calls Try.prog 4 #[.slice a n c, .slice a' m d, .int .i64 i, .int .u8 y] w fun e w' => e = .returned (.bool true) ∧ Below w.heap.size w w' := by
  obtain ⟨r, hr⟩ := bytes7_any a a' n c m d i y w hn hm
  have HR : Hid (Calls Try.prog 7 #[.slice a n c, .slice a' m d, .int .i64 i, .int .u8 y] w fun e w' => e = .returned (.bool r) ∧ w' = w) := hr
  clear hr
  cases r with
  | false =>
    clear hh
    go_enter Try.func4, Try.ntmps4
    go_wp2_with fail
    refine HR.out.mono ?_
    rintro e w' ⟨rfl, rfl⟩
    go_wp2_with fail
    go_ret
    exact ⟨rfl, Below.refl _ _⟩
  | true =>
    by_cases h1 : 524288 < n
    · clear hh
      go_enter Try.func4, Try.ntmps4
      go_wp2_with fail
      refine HR.out.mono ?_
      rintro e w' ⟨rfl, rfl⟩
      go_wp2
      go_ret
      exact ⟨rfl, Below.refl _ _⟩
    · by_cases h2 : 524288 < m
      · clear hh
        go_enter Try.func4, Try.ntmps4
        go_wp2_with fail
        refine HR.out.mono ?_
        rintro e w' ⟨rfl, rfl⟩
        go_wp2
        go_ret
        exact ⟨rfl, Below.refl _ _⟩
      · by_cases h3 : i < 0
        · clear hh
          go_enter Try.func4, Try.ntmps4
          go_wp2_with fail
          refine HR.out.mono ?_
          rintro e w' ⟨rfl, rfl⟩
          go_wp2
          go_ret
          exact ⟨rfl, Below.refl _ _⟩
        · have h4 : (n : Int) ≤ i := by omega
          clear hh
          go_enter Try.func4, Try.ntmps4
          go_wp2_with fail
          refine HR.out.mono ?_
          rintro e w' ⟨rfl, rfl⟩
          go_wp2
          go_ret
          exact ⟨rfl, Below.refl _ _⟩

set_option maxRecDepth 1000000 in
theorem core_some (s off n cap : Nat) (A : Nat → Int) (aq : Addr) (m capq sq oq : Nat) (Q : Nat → Int) (i : Nat) (x : Int) (w : World) (hn : n ≤ 524288) (hm : m ≤ 524288) (hi : i < n) (hx0 : 0 ≤ x) (hx1 : x ≤ 255)
    (hA : Oct w (some ⟨s, off, none⟩) n s off A) (hQ : Oct w (some aq) m sq oq Q) :
    Calls Try.prog 4 #[.slice (some ⟨s, off, none⟩) n cap, .slice (some aq) m capq, .int .i64 (i : Int), .int .u8 x] w fun e w' => e = .returned (.bool true) ∧ Below w.heap.size w w' := by
  obtain ⟨w2, hcp, hr2, hb2, hs2⟩ := copied hA cap
  have hO2 := Oct.row hr2 hA.rng
  have hmk := run_make_row' (P := Try.prog) 25 5 (.int .u8 0) 1 Try.underlying25 info5 rfl .i64 .i64 n (by omega) (by omega)
  have hmq := run_make_row' (P := Try.prog) 25 5 (.int .u8 0) 1 Try.underlying25 info5 rfl .i64 .i64 m (by omega) (by omega)
  have hQ2 := Oct.below hQ hb2 (Nat.le_refl _)
  obtain ⟨w3, hcq, hr3, hb3, hs3'⟩ := copied hQ2 capq
  have hA3 : Oct w3 (some ⟨w.heap.size, 0, none⟩) n w.heap.size 0 A := Oct.below hO2 hb3 (Nat.le_refl _)
  have hQ3 : Oct w3 (some ⟨w2.heap.size, 0, none⟩) m w2.heap.size 0 Q := Oct.row hr3 hQ.rng
  have hB3 : Below w.heap.size w w3 := hb2.trans ⟨hb3.os, hb3.tape, hb3.output, hb3.size, fun k hk => hb3.block k (by omega)⟩
  have hs3 : w.heap.size + 1 ≤ w3.heap.size := by omega
  clear hr3 hb3 hQ2 hs3'
  have HA3 : Hid (Oct w3 (some ⟨w.heap.size, 0, none⟩) n w.heap.size 0 A) := hA3
  have HQ3 : Hid (Oct w3 (some ⟨w2.heap.size, 0, none⟩) m w2.heap.size 0 Q) := hQ3
  have HB3 : Hid (Below w.heap.size w w3) := hB3
  have HS3 : Hid (w.heap.size + 1 ≤ w3.heap.size) := hs3
  have HRA : Hid (∀ j, j < n → 0 ≤ A j ∧ A j ≤ 255) := hA.rng
  have hi' : (i : Int) < (n : Int) := by omega
  have HMade : Hid ((w3.alloc (.cells (madeCells #[.int .u8 0] n) 5)).rowIs w3.heap.size 5 n (fun j => .int .u8 (if j < 0 then A j else 0))) := (World.rowIs_made w3 (.int .u8 0) n 5).congr (fun j _ => by rw [if_neg (by omega)])
  have HMB : Hid (Below w3.heap.size w3 (w3.alloc (.cells (madeCells #[.int .u8 0] n) 5))) := (Below.refl _ _).alloc (Nat.le_refl _) _
  clear hr2 hb2 hs2 hO2 hA hA3 hQ3 hB3 hs3
  clear hQ
  go_enter Try.func4, Try.ntmps4
  go_wp2_with fail
  refine (bytes7 _ _ _ _ _ _ _ _ _ hn (by omega)).mono ?_
  rintro e w' ⟨rfl, rfl⟩
  go_wp2_with fail
  clear hcp hmk
  clear hcq hmq
  obtain ⟨H, hH⟩ : ∃ H, H = w3.heap.size := ⟨_, rfl⟩
  rw [← hH] at HMade HMB HS3 ⊢
  have HH : Hid (H = w3.heap.size) := hH
  clear hH
  go_loopw [12] (fun u12 wr => ∃ k : Nat, u12 = .int .i64 (k : Int) ∧ k ≤ n ∧ wr.rowIs H 5 n (fun j => .int .u8 (if j < k then A j else 0)) ∧ Below H w3 wr)
    (fun u12 _ => n - intN u12)
  case atStart => exact ⟨0, rfl, Nat.zero_le _, HMade.out, HMB.out⟩
  case round =>
    clear HMade HMB
    obtain ⟨k, rfl, hk, hR, hB⟩ := hrel
    by_cases hlt : k < n
    · have hlt' : (k : Int) < (n : Int) := by omega
      have cA : wr.cell? ⟨w'.heap.size, k, none⟩ = some (.int .u8 (A k)) := by have := (Oct.below HA3.out hB (by have := HH.out; omega)).cell k hlt; rwa [Nat.zero_add] at this
      have cH := hR.cell hlt
      have fH := hR.frozen k
      have HR : Hid ((wr.setCell ⟨H, k, none⟩ (.int .u8 (A k))).rowIs H 5 n (fun j => .int .u8 (if j < k + 1 then A j else 0))) := (hR.set k (.int .u8 (A k))).congr (fun j _ => by
        by_cases e : j = k
        · subst e; rw [if_pos rfl, if_pos (by omega)]
        · rw [if_neg e]
          by_cases e2 : j < k
          · rw [if_pos e2, if_pos (by omega)]
          · rw [if_neg e2, if_neg (by omega)])
      have HB2 : Hid (Below H w3 (wr.setCell ⟨H, k, none⟩ (.int .u8 (A k)))) := hB.setCell (by show H ≤ H; omega) _
      generalize A k = z at *
      clear hR hB
      go_wp2
      go_roundw
      case rel => exact ⟨k + 1, by go_num, by omega, HR.out, HB2.out⟩
      case measure => simp [intN]; omega
    · have hkn : k = n := by omega
      subst hkn
      have cA : wr.cell? ⟨w'.heap.size, i, none⟩ = some (.int .u8 (A i)) := by have := (Oct.below HA3.out hB (by have := HH.out; omega)).cell i hi; rwa [Nat.zero_add] at this
      have cH := hR.cell hi
      have fH := hR.frozen i
      have HAo : Hid (Oct (wr.setCell ⟨H, i, none⟩ (.int .u8 (bits .xor .u8 (A i) x))) (some ⟨w'.heap.size, 0, none⟩) k w'.heap.size 0 A) := Oct.below HA3.out (hB.setCell (by show H ≤ H; omega) _) (by have := HH.out; omega)
      have HQo : Hid (Oct (wr.setCell ⟨H, i, none⟩ (.int .u8 (bits .xor .u8 (A i) x))) (some ⟨w2.heap.size, 0, none⟩) m w2.heap.size 0 Q) := Oct.below HQ3.out (hB.setCell (by show H ≤ H; omega) _) (by have := HH.out; omega)
      have HB : Hid (Oct (wr.setCell ⟨H, i, none⟩ (.int .u8 (bits .xor .u8 (A i) x))) (some ⟨H, 0, none⟩) k H 0 (turned A i x)) := Oct.row ((hR.set i (.int .u8 (bits .xor .u8 (A i) x))).congr (fun j hj => by
          unfold turned
          by_cases e : j = i
          · subst e; rw [if_pos rfl, if_pos rfl]
          · rw [if_neg e, if_neg e, if_pos hj]))
        (fun j hj => by
          unfold turned
          by_cases e : j = i
          · rw [if_pos e]; exact xor_bd _ _
          · rw [if_neg e]; exact HRA.out j hj)
      have HBel : Hid (Below w'.heap.size w' (wr.setCell ⟨H, i, none⟩ (.int .u8 (bits .xor .u8 (A i) x)))) :=
        ((HB3.out.trans ⟨hB.os, hB.tape, hB.output, hB.size, fun j hj => hB.block j (by have := HS3.out; omega)⟩)).setCell (by show w'.heap.size ≤ H; have := HS3.out; omega) _
      have HS2 : Hid (sameB k k (turned A i x) A = sameB k k A (turned A i x)) := same_symm
      have HIff : Hid (Same k k A (turned A i x) ↔ 4 ≤ k ∧ (x = 0 ∨ (i < k - 4 ∧ x = 32 ∧ letB (A i) = true))) := same_turned hi HRA.out hx0 hx1
      have HT : Hid (sameB k k A (turned A i x) = true → sameB k m (turned A i x) Q = sameB k m A Q) := same_trans
      have HRy : Hid (0 ≤ A i ∧ A i ≤ 255) := HRA.out i hi
      obtain ⟨y, hy⟩ : ∃ y, y = A i := ⟨_, rfl⟩
      rw [← hy] at cA HAo HQo HB HBel HIff HRy
      have HY : Hid (A i = y) := hy.symm
      clear hy
      clear hR hB HRA HA3 HQ3 HB3
      go_wp2_with fail
      clear cA cH fH
      generalize wr.setCell ⟨H, i, none⟩ (.int .u8 (bits .xor .u8 y x)) = W at *
      by_cases h4 : 4 ≤ k
      · have h4' : (4 : Int) ≤ (k : Int) := by omega
        by_cases hx : x = 0
        · subst hx
          have HE : Hid (sameB k k A (turned A i 0) = true) := sameB_true (HIff.out.2 ⟨by omega, Or.inl rfl⟩)
          clear HIff
          refine (same_at (by omega) (by omega) (Nat.le_refl _) (Nat.le_refl _) HAo.out HB.out true HE.out 0).mono ?_
          rintro e v1 ⟨rfl, q1, rfl⟩
          go_wp2_with fail
          refine (same_at (by omega) (by omega) (Nat.le_refl _) (Nat.le_refl _) HB.out HAo.out true (HS2.out.trans HE.out) q1).mono ?_
          rintro e v2 ⟨rfl, q2, rfl⟩
          go_wp2_with fail
          refine (same_at (by omega) (by omega) (Nat.le_refl _) (Nat.le_refl _) HB.out HQo.out _ (HT.out HE.out) q2).mono ?_
          rintro e v3 ⟨rfl, q3, rfl⟩
          go_wp2_with fail
          refine (same_at (by omega) (by omega) (Nat.le_refl _) (Nat.le_refl _) HAo.out HQo.out _ rfl q3).mono ?_
          rintro e v4 ⟨rfl, q4, rfl⟩
          go_wp2_with fail
          go_ret
          exact ⟨rfl, below_drewN HBel.out q4⟩
        · by_cases hin : i < k - 4
          · by_cases h32 : x = 32
            · by_cases hl : letB y = true
              · have hin' : (i : Int) < (k : Int) - 4 := by omega
                subst h32
                have HL : Hid (letB y = true) := hl
                have HE : Hid (sameB k k A (turned A i 32) = true) := sameB_true (HIff.out.2 ⟨by omega, Or.inr ⟨hin, rfl, hl⟩⟩)
                clear HIff
                clear hl hx
                refine (same_at (by omega) (by omega) (Nat.le_refl _) (Nat.le_refl _) HAo.out HB.out true HE.out 0).mono ?_
                rintro e v1 ⟨rfl, q1, rfl⟩
                have cW : (W.drewN q1).cell? ⟨w'.heap.size, i, none⟩ = some (.int .u8 y) := by have := (HAo.out.drewN q1).cell i hi; rwa [Nat.zero_add, HY.out] at this
                go_wp2_with fail
                refine (letter_any y _ HRy.out.1 HRy.out.2).mono ?_
                rintro e v ⟨rfl, rfl⟩
                rw [HL.out]
                clear cW
                go_wp2_with fail
                refine (same_at (by omega) (by omega) (Nat.le_refl _) (Nat.le_refl _) HB.out HAo.out true (HS2.out.trans HE.out) q1).mono ?_
                rintro e v2 ⟨rfl, q2, rfl⟩
                go_wp2_with fail
                refine (same_at (by omega) (by omega) (Nat.le_refl _) (Nat.le_refl _) HB.out HQo.out _ (HT.out HE.out) q2).mono ?_
                rintro e v3 ⟨rfl, q3, rfl⟩
                go_wp2_with fail
                refine (same_at (by omega) (by omega) (Nat.le_refl _) (Nat.le_refl _) HAo.out HQo.out _ rfl q3).mono ?_
                rintro e v4 ⟨rfl, q4, rfl⟩
                go_wp2_with fail
                go_ret
                exact ⟨rfl, below_drewN HBel.out q4⟩
              · have hin' : (i : Int) < (k : Int) - 4 := by omega
                subst h32
                have HL : Hid (letB y = false) := by rw [Hid]; cases hb : letB y <;> simp_all
                have HE : Hid (sameB k k A (turned A i 32) = false) := sameB_false (fun hs => by have := HIff.out.1 hs; rcases this.2 with h | ⟨_, _, h⟩; omega; exact hl h)
                clear HIff HT hl hx
                refine (same_at (by omega) (by omega) (Nat.le_refl _) (Nat.le_refl _) HAo.out HB.out false HE.out 0).mono ?_
                rintro e v1 ⟨rfl, q1, rfl⟩
                have cW : (W.drewN q1).cell? ⟨w'.heap.size, i, none⟩ = some (.int .u8 y) := by have := (HAo.out.drewN q1).cell i hi; rwa [Nat.zero_add, HY.out] at this
                go_wp2_with fail
                refine (letter_any y _ HRy.out.1 HRy.out.2).mono ?_
                rintro e v ⟨rfl, rfl⟩
                rw [HL.out]
                clear cW
                go_wp2_with fail
                refine (same_at (by omega) (by omega) (Nat.le_refl _) (Nat.le_refl _) HB.out HAo.out false (HS2.out.trans HE.out) q1).mono ?_
                rintro e v2 ⟨rfl, q2, rfl⟩
                go_wp2_with fail
                go_ret
                exact ⟨rfl, below_drewN HBel.out q2⟩
            · have hin' : (i : Int) < (k : Int) - 4 := by omega
              have hx' : (x == 0) = false := by simpa using hx
              have h32' : (x == 32) = false := by simpa using h32
              have HE : Hid (sameB k k A (turned A i x) = false) := sameB_false (fun hs => by have := HIff.out.1 hs; omega)
              clear HIff HT hx h32
              refine (same_at (by omega) (by omega) (Nat.le_refl _) (Nat.le_refl _) HAo.out HB.out false HE.out 0).mono ?_
              rintro e v1 ⟨rfl, q1, rfl⟩
              go_wp2_with fail
              refine (same_at (by omega) (by omega) (Nat.le_refl _) (Nat.le_refl _) HB.out HAo.out false (HS2.out.trans HE.out) q1).mono ?_
              rintro e v2 ⟨rfl, q2, rfl⟩
              go_wp2_with fail
              go_ret
              exact ⟨rfl, below_drewN HBel.out q2⟩
          · have hin' : ¬ ((i : Int) < (k : Int) - 4) := by omega
            have hx' : (x == 0) = false := by simpa using hx
            have HE : Hid (sameB k k A (turned A i x) = false) := sameB_false (fun hs => by have := HIff.out.1 hs; omega)
            clear HIff HT hx
            refine (same_at (by omega) (by omega) (Nat.le_refl _) (Nat.le_refl _) HAo.out HB.out false HE.out 0).mono ?_
            rintro e v1 ⟨rfl, q1, rfl⟩
            go_wp2_with fail
            refine (same_at (by omega) (by omega) (Nat.le_refl _) (Nat.le_refl _) HB.out HAo.out false (HS2.out.trans HE.out) q1).mono ?_
            rintro e v2 ⟨rfl, q2, rfl⟩
            go_wp2_with fail
            go_ret
            exact ⟨rfl, below_drewN HBel.out q2⟩
      · have h4' : (k : Int) < 4 := by omega
        have HE : Hid (sameB k k A (turned A i x) = false) := sameB_false (fun hs => by have := HIff.out.1 hs; omega)
        clear HIff HT
        refine (same_at (by omega) (by omega) (Nat.le_refl _) (Nat.le_refl _) HAo.out HB.out false HE.out 0).mono ?_
        rintro e v1 ⟨rfl, q1, rfl⟩
        go_wp2_with fail
        refine (same_at (by omega) (by omega) (Nat.le_refl _) (Nat.le_refl _) HB.out HAo.out false (HS2.out.trans HE.out) q1).mono ?_
        rintro e v2 ⟨rfl, q2, rfl⟩
        go_wp2_with fail
        go_ret
        exact ⟨rfl, below_drewN HBel.out q2⟩

set_option maxRecDepth 1000000 in
theorem core_nil (s off n cap : Nat) (A : Nat → Int) (i : Nat) (x : Int) (w : World) (hn : n ≤ 524288) (hi : i < n) (hx0 : 0 ≤ x) (hx1 : x ≤ 255)
    (hA : Oct w (some ⟨s, off, none⟩) n s off A) :
    Calls Try.prog 4 #[.slice (some ⟨s, off, none⟩) n cap, .slice none 0 0, .int .i64 (i : Int), .int .u8 x] w fun e w' => e = .returned (.bool true) ∧ Below w.heap.size w w' := by
  obtain ⟨w2, hcp, hr2, hb2, hs2⟩ := copied hA cap
  have hO2 := Oct.row hr2 hA.rng
  have hmk := run_make_row' (P := Try.prog) 25 5 (.int .u8 0) 1 Try.underlying25 info5 rfl .i64 .i64 n (by omega) (by omega)
  obtain ⟨w3, hw3⟩ : ∃ w3, w3 = w2 := ⟨_, rfl⟩
  have hA3 : Oct w3 (some ⟨w.heap.size, 0, none⟩) n w.heap.size 0 A := by rw [hw3]; exact hO2
  have hQ3 : Oct w3 none 0 0 0 (fun _ => 0) := Oct.none 0 0
  have hB3 : Below w.heap.size w w3 := by rw [hw3]; exact hb2
  have hs3 : w.heap.size + 1 ≤ w3.heap.size := by rw [hw3]; omega
  obtain ⟨m, hm0⟩ : ∃ m, m = 0 := ⟨0, rfl⟩
  have HA3 : Hid (Oct w3 (some ⟨w.heap.size, 0, none⟩) n w.heap.size 0 A) := hA3
  have HQ3 : Hid (Oct w3 none 0 0 0 (fun _ => 0)) := hQ3
  have HB3 : Hid (Below w.heap.size w w3) := hB3
  have HS3 : Hid (w.heap.size + 1 ≤ w3.heap.size) := hs3
  have HRA : Hid (∀ j, j < n → 0 ≤ A j ∧ A j ≤ 255) := hA.rng
  have hi' : (i : Int) < (n : Int) := by omega
  have HMade : Hid ((w3.alloc (.cells (madeCells #[.int .u8 0] n) 5)).rowIs w3.heap.size 5 n (fun j => .int .u8 (if j < 0 then A j else 0))) := (World.rowIs_made w3 (.int .u8 0) n 5).congr (fun j _ => by rw [if_neg (by omega)])
  have HMB : Hid (Below w3.heap.size w3 (w3.alloc (.cells (madeCells #[.int .u8 0] n) 5))) := (Below.refl _ _).alloc (Nat.le_refl _) _
  clear hr2 hb2 hs2 hO2 hA hA3 hQ3 hB3 hs3
  subst hw3
  clear hm0
  go_enter Try.func4, Try.ntmps4
  go_wp2_with fail
  refine (bytes7 _ _ _ _ _ _ _ _ _ hn (by omega)).mono ?_
  rintro e w' ⟨rfl, rfl⟩
  go_wp2_with fail
  clear hcp hmk
  obtain ⟨H, hH⟩ : ∃ H, H = w3.heap.size := ⟨_, rfl⟩
  rw [← hH] at HMade HMB HS3 ⊢
  have HH : Hid (H = w3.heap.size) := hH
  clear hH
  go_loopw [12] (fun u12 wr => ∃ k : Nat, u12 = .int .i64 (k : Int) ∧ k ≤ n ∧ wr.rowIs H 5 n (fun j => .int .u8 (if j < k then A j else 0)) ∧ Below H w3 wr)
    (fun u12 _ => n - intN u12)
  case atStart => exact ⟨0, rfl, Nat.zero_le _, HMade.out, HMB.out⟩
  case round =>
    clear HMade HMB
    obtain ⟨k, rfl, hk, hR, hB⟩ := hrel
    by_cases hlt : k < n
    · have hlt' : (k : Int) < (n : Int) := by omega
      have cA : wr.cell? ⟨w'.heap.size, k, none⟩ = some (.int .u8 (A k)) := by have := (Oct.below HA3.out hB (by have := HH.out; omega)).cell k hlt; rwa [Nat.zero_add] at this
      have cH := hR.cell hlt
      have fH := hR.frozen k
      have HR : Hid ((wr.setCell ⟨H, k, none⟩ (.int .u8 (A k))).rowIs H 5 n (fun j => .int .u8 (if j < k + 1 then A j else 0))) := (hR.set k (.int .u8 (A k))).congr (fun j _ => by
        by_cases e : j = k
        · subst e; rw [if_pos rfl, if_pos (by omega)]
        · rw [if_neg e]
          by_cases e2 : j < k
          · rw [if_pos e2, if_pos (by omega)]
          · rw [if_neg e2, if_neg (by omega)])
      have HB2 : Hid (Below H w3 (wr.setCell ⟨H, k, none⟩ (.int .u8 (A k)))) := hB.setCell (by show H ≤ H; omega) _
      generalize A k = z at *
      clear hR hB
      go_wp2
      go_roundw
      case rel => exact ⟨k + 1, by go_num, by omega, HR.out, HB2.out⟩
      case measure => simp [intN]; omega
    · have hkn : k = n := by omega
      subst hkn
      have cA : wr.cell? ⟨w'.heap.size, i, none⟩ = some (.int .u8 (A i)) := by have := (Oct.below HA3.out hB (by have := HH.out; omega)).cell i hi; rwa [Nat.zero_add] at this
      have cH := hR.cell hi
      have fH := hR.frozen i
      have HAo : Hid (Oct (wr.setCell ⟨H, i, none⟩ (.int .u8 (bits .xor .u8 (A i) x))) (some ⟨w'.heap.size, 0, none⟩) k w'.heap.size 0 A) := Oct.below HA3.out (hB.setCell (by show H ≤ H; omega) _) (by have := HH.out; omega)
      have HQo : Hid (Oct (wr.setCell ⟨H, i, none⟩ (.int .u8 (bits .xor .u8 (A i) x))) none 0 0 0 (fun _ => 0)) := Oct.below HQ3.out (hB.setCell (by show H ≤ H; omega) _) (by have := HH.out; omega)
      have HB : Hid (Oct (wr.setCell ⟨H, i, none⟩ (.int .u8 (bits .xor .u8 (A i) x))) (some ⟨H, 0, none⟩) k H 0 (turned A i x)) := Oct.row ((hR.set i (.int .u8 (bits .xor .u8 (A i) x))).congr (fun j hj => by
          unfold turned
          by_cases e : j = i
          · subst e; rw [if_pos rfl, if_pos rfl]
          · rw [if_neg e, if_neg e, if_pos hj]))
        (fun j hj => by
          unfold turned
          by_cases e : j = i
          · rw [if_pos e]; exact xor_bd _ _
          · rw [if_neg e]; exact HRA.out j hj)
      have HBel : Hid (Below w'.heap.size w' (wr.setCell ⟨H, i, none⟩ (.int .u8 (bits .xor .u8 (A i) x)))) :=
        ((HB3.out.trans ⟨hB.os, hB.tape, hB.output, hB.size, fun j hj => hB.block j (by have := HS3.out; omega)⟩)).setCell (by show w'.heap.size ≤ H; have := HS3.out; omega) _
      have HS2 : Hid (sameB k k (turned A i x) A = sameB k k A (turned A i x)) := same_symm
      have HIff : Hid (Same k k A (turned A i x) ↔ 4 ≤ k ∧ (x = 0 ∨ (i < k - 4 ∧ x = 32 ∧ letB (A i) = true))) := same_turned hi HRA.out hx0 hx1
      have HT : Hid (sameB k k A (turned A i x) = true → sameB k 0 (turned A i x) (fun _ => 0) = sameB k 0 A (fun _ => 0)) := same_trans
      have HRy : Hid (0 ≤ A i ∧ A i ≤ 255) := HRA.out i hi
      obtain ⟨y, hy⟩ : ∃ y, y = A i := ⟨_, rfl⟩
      rw [← hy] at cA HAo HQo HB HBel HIff HRy
      have HY : Hid (A i = y) := hy.symm
      clear hy
      clear hR hB HRA HA3 HQ3 HB3
      go_wp2_with fail
      clear cA cH fH
      generalize wr.setCell ⟨H, i, none⟩ (.int .u8 (bits .xor .u8 y x)) = W at *
      by_cases h4 : 4 ≤ k
      · have h4' : (4 : Int) ≤ (k : Int) := by omega
        by_cases hx : x = 0
        · subst hx
          have HE : Hid (sameB k k A (turned A i 0) = true) := sameB_true (HIff.out.2 ⟨by omega, Or.inl rfl⟩)
          clear HIff
          refine (same_at (by omega) (by omega) (Nat.le_refl _) (Nat.le_refl _) HAo.out HB.out true HE.out 0).mono ?_
          rintro e v1 ⟨rfl, q1, rfl⟩
          go_wp2_with fail
          refine (same_at (by omega) (by omega) (Nat.le_refl _) (Nat.le_refl _) HB.out HAo.out true (HS2.out.trans HE.out) q1).mono ?_
          rintro e v2 ⟨rfl, q2, rfl⟩
          go_wp2_with fail
          refine (same_at (by omega) (by omega) (Nat.le_refl _) (Nat.le_refl _) HB.out HQo.out _ (HT.out HE.out) q2).mono ?_
          rintro e v3 ⟨rfl, q3, rfl⟩
          go_wp2_with fail
          refine (same_at (by omega) (by omega) (Nat.le_refl _) (Nat.le_refl _) HAo.out HQo.out _ rfl q3).mono ?_
          rintro e v4 ⟨rfl, q4, rfl⟩
          go_wp2_with fail
          go_ret
          exact ⟨rfl, below_drewN HBel.out q4⟩
        · by_cases hin : i < k - 4
          · by_cases h32 : x = 32
            · by_cases hl : letB y = true
              · have hin' : (i : Int) < (k : Int) - 4 := by omega
                subst h32
                have HL : Hid (letB y = true) := hl
                have HE : Hid (sameB k k A (turned A i 32) = true) := sameB_true (HIff.out.2 ⟨by omega, Or.inr ⟨hin, rfl, hl⟩⟩)
                clear HIff
                clear hl hx
                refine (same_at (by omega) (by omega) (Nat.le_refl _) (Nat.le_refl _) HAo.out HB.out true HE.out 0).mono ?_
                rintro e v1 ⟨rfl, q1, rfl⟩
                have cW : (W.drewN q1).cell? ⟨w'.heap.size, i, none⟩ = some (.int .u8 y) := by have := (HAo.out.drewN q1).cell i hi; rwa [Nat.zero_add, HY.out] at this
                go_wp2_with fail
                refine (letter_any y _ HRy.out.1 HRy.out.2).mono ?_
                rintro e v ⟨rfl, rfl⟩
                rw [HL.out]
                clear cW
                go_wp2_with fail
                refine (same_at (by omega) (by omega) (Nat.le_refl _) (Nat.le_refl _) HB.out HAo.out true (HS2.out.trans HE.out) q1).mono ?_
                rintro e v2 ⟨rfl, q2, rfl⟩
                go_wp2_with fail
                refine (same_at (by omega) (by omega) (Nat.le_refl _) (Nat.le_refl _) HB.out HQo.out _ (HT.out HE.out) q2).mono ?_
                rintro e v3 ⟨rfl, q3, rfl⟩
                go_wp2_with fail
                refine (same_at (by omega) (by omega) (Nat.le_refl _) (Nat.le_refl _) HAo.out HQo.out _ rfl q3).mono ?_
                rintro e v4 ⟨rfl, q4, rfl⟩
                go_wp2_with fail
                go_ret
                exact ⟨rfl, below_drewN HBel.out q4⟩
              · have hin' : (i : Int) < (k : Int) - 4 := by omega
                subst h32
                have HL : Hid (letB y = false) := by rw [Hid]; cases hb : letB y <;> simp_all
                have HE : Hid (sameB k k A (turned A i 32) = false) := sameB_false (fun hs => by have := HIff.out.1 hs; rcases this.2 with h | ⟨_, _, h⟩; omega; exact hl h)
                clear HIff HT hl hx
                refine (same_at (by omega) (by omega) (Nat.le_refl _) (Nat.le_refl _) HAo.out HB.out false HE.out 0).mono ?_
                rintro e v1 ⟨rfl, q1, rfl⟩
                have cW : (W.drewN q1).cell? ⟨w'.heap.size, i, none⟩ = some (.int .u8 y) := by have := (HAo.out.drewN q1).cell i hi; rwa [Nat.zero_add, HY.out] at this
                go_wp2_with fail
                refine (letter_any y _ HRy.out.1 HRy.out.2).mono ?_
                rintro e v ⟨rfl, rfl⟩
                rw [HL.out]
                clear cW
                go_wp2_with fail
                refine (same_at (by omega) (by omega) (Nat.le_refl _) (Nat.le_refl _) HB.out HAo.out false (HS2.out.trans HE.out) q1).mono ?_
                rintro e v2 ⟨rfl, q2, rfl⟩
                go_wp2_with fail
                go_ret
                exact ⟨rfl, below_drewN HBel.out q2⟩
            · have hin' : (i : Int) < (k : Int) - 4 := by omega
              have hx' : (x == 0) = false := by simpa using hx
              have h32' : (x == 32) = false := by simpa using h32
              have HE : Hid (sameB k k A (turned A i x) = false) := sameB_false (fun hs => by have := HIff.out.1 hs; omega)
              clear HIff HT hx h32
              refine (same_at (by omega) (by omega) (Nat.le_refl _) (Nat.le_refl _) HAo.out HB.out false HE.out 0).mono ?_
              rintro e v1 ⟨rfl, q1, rfl⟩
              go_wp2_with fail
              refine (same_at (by omega) (by omega) (Nat.le_refl _) (Nat.le_refl _) HB.out HAo.out false (HS2.out.trans HE.out) q1).mono ?_
              rintro e v2 ⟨rfl, q2, rfl⟩
              go_wp2_with fail
              go_ret
              exact ⟨rfl, below_drewN HBel.out q2⟩
          · have hin' : ¬ ((i : Int) < (k : Int) - 4) := by omega
            have hx' : (x == 0) = false := by simpa using hx
            have HE : Hid (sameB k k A (turned A i x) = false) := sameB_false (fun hs => by have := HIff.out.1 hs; omega)
            clear HIff HT hx
            refine (same_at (by omega) (by omega) (Nat.le_refl _) (Nat.le_refl _) HAo.out HB.out false HE.out 0).mono ?_
            rintro e v1 ⟨rfl, q1, rfl⟩
            go_wp2_with fail
            refine (same_at (by omega) (by omega) (Nat.le_refl _) (Nat.le_refl _) HB.out HAo.out false (HS2.out.trans HE.out) q1).mono ?_
            rintro e v2 ⟨rfl, q2, rfl⟩
            go_wp2_with fail
            go_ret
            exact ⟨rfl, below_drewN HBel.out q2⟩
      · have h4' : (k : Int) < 4 := by omega
        have HE : Hid (sameB k k A (turned A i x) = false) := sameB_false (fun hs => by have := HIff.out.1 hs; omega)
        clear HIff HT
        refine (same_at (by omega) (by omega) (Nat.le_refl _) (Nat.le_refl _) HAo.out HB.out false HE.out 0).mono ?_
        rintro e v1 ⟨rfl, q1, rfl⟩
        go_wp2_with fail
        refine (same_at (by omega) (by omega) (Nat.le_refl _) (Nat.le_refl _) HB.out HAo.out false (HS2.out.trans HE.out) q1).mono ?_
        rintro e v2 ⟨rfl, q2, rfl⟩
        go_wp2_with fail
        go_ret
        exact ⟨rfl, below_drewN HBel.out q2⟩

theorem walk (a0 : Option Addr) (len0 cap0 : Nat) (z0 : List Int) (a1 : Option Addr) (len1 cap1 : Nat) (z1 : List Int) (a2 : Int) (a3 : Int) (w : World) (w0 : IsRow .u8 w a0 len0 cap0 z0) (w1 : IsRow .u8 w a1 len1 cap1 z1) (w2 : (Lit.int .i64 a2).wf = true) (w3 : (Lit.int .u8 a3).wf = true) :
    Calls Try.prog 4 #[.slice a0 len0 cap0, .slice a1 len1 cap1, .int .i64 a2, .int .u8 a3] w fun e w' => e = .returned (.bool true) ∧ Below w.heap.size w w' := by
  have hm0 : len0 ≤ 9223372036854775807 := by
    rcases w0 with ⟨_, rfl, _, _⟩ | ⟨x, _, h1, h2, _⟩
    · omega
    · unfold maxLen at h2; omega
  have hm1 : len1 ≤ 9223372036854775807 := by
    rcases w1 with ⟨_, rfl, _, _⟩ | ⟨x, _, h1, h2, _⟩
    · omega
    · unfold maxLen at h2; omega
  by_cases hh : 524288 < len0 ∨ 524288 < len1 ∨ a2 < 0 ∨ (len0 : Int) ≤ a2
  · exact early a0 a1 len0 cap0 len1 cap1 a2 a3 w hm0 hm1 hh
  · obtain ⟨i, rfl⟩ : ∃ i : Nat, a2 = (i : Int) := ⟨a2.toNat, by omega⟩
    have hx : 0 ≤ a3 ∧ a3 ≤ 255 := octet w3
    rcases w0 with ⟨_, rfl, _, _⟩ | ⟨x, rfl, hl, _, hz, hcell, hwf⟩
    · omega
    · obtain ⟨s, off, spot⟩ := x
      have hspot : spot = none := by simpa [Addr.add] using World.cell?_spot (hcell 0 (by omega))
      subst hspot
      have hO : Oct w (some ⟨s, off, none⟩) len0 s off (fun i => z0.getD i 0) := oct_of hl hz hcell hwf
      rcases w1 with ⟨rfl, rfl, rfl, _⟩ | ⟨y, rfl, hl1, _, hz1, hcell1, hwf1⟩
      · exact core_nil s off len0 cap0 _ i a3 w (by omega) (by omega) hx.1 hx.2 hO
      · by_cases h0 : len1 = 0
        · subst h0
          exact core_some s off len0 cap0 _ y 0 cap1 0 0 (fun _ => 0) i a3 w (by omega) (by omega) (by omega) hx.1 hx.2 hO ⟨fun h => by omega, fun i hi => by omega, fun i hi => by omega⟩
        · obtain ⟨s1, off1, spot1⟩ := y
          have hspot1 : spot1 = none := by simpa [Addr.add] using World.cell?_spot (hcell1 0 (by omega))
          subst hspot1
          have hO1 : Oct w (some ⟨s1, off1, none⟩) len1 s1 off1 (fun i => z1.getD i 0) := oct_of hl1 hz1 hcell1 hwf1
          exact core_some s off len0 cap0 _ _ len1 cap1 s1 off1 _ i a3 w (by omega) (by omega) (by omega) hx.1 hx.2 hO hO1

/-! ### THE ROW's STEP: WRITTEN OUT: LEAVE IT -/
set_option maxRecDepth 100000 in
theorem lifted (os : Os) (started : os.Started) (H : Type) (enc : TypeId × Value → H) :
    ReturnsInHanded {} Try.checked os 4 .any (Rows.fnSameQuestionForgivesOnlyCaseOfNameLettersSpec.pre6 enc Try.prog Try.f4 Rows.fnSameQuestionForgivesOnlyCaseOfNameLettersRow.domain false) (Rows.fnSameQuestionForgivesOnlyCaseOfNameLettersSpec.post enc Try.prog Try.f4 false true false false) := by
  refine returnsInHanded_of_change (C := Try.checked) own started (by kernel_rfl) Try.func4
    (ChangeSpec.witness6 (enc := enc) (C := Try.checked) false ⟨#[], #[.slice none 0 0, .slice none 0 0, .int .i64 0, .int .u8 0], []⟩ 8 (by kernel_rfl) (by kernel_rfl) (by kernel_rfl) (by kernel_rfl)) ?_
  intro W base args ds gs before hval0 hW hcnd _
  have hval : ∀ (j : Nat) t v, Try.f4.params[j]? = some t → args[j]? = some v → Value.okWide Try.prog W .any base t v := hval0
  have hW' := hW
  obtain ⟨p, q, hA0, hV, rfl, hfz, hnd⟩ := hW
  have hA : DataW.TrodAll enc Try.prog W 0 (fun _ => true) true Try.f4.params.toList args.toList ds p := hA0
  rw [Try.params4] at hA hval
  obtain ⟨v0, vs0, d0, ds0, p0, q0, hargs, rfl, rfl, h0, r0⟩ := trodAll_cons hA
  obtain ⟨v1, vs1, d1, ds1, p1, q1, rfl, rfl, rfl, h1, r1⟩ := trodAll_cons r0
  obtain ⟨v2, vs2, d2, ds2, p2, q2, rfl, rfl, rfl, h2, r2⟩ := trodAll_cons r1
  obtain ⟨v3, vs3, d3, ds3, p3, q3, rfl, rfl, rfl, h3, r3⟩ := trodAll_cons r2
  obtain ⟨rfl, rfl, rfl⟩ := trodAll_nil r3
  obtain rfl : args = #[v0, v1, v2, v3] := by cases args; simp_all
  obtain ⟨rfl, rfl⟩ := trodVars_none hV
  obtain ⟨a0, len0, cap0, rfl⟩ := okWide_slice Try.underlying25 (hval 0 25 v0 rfl rfl)
  have k0 := h0
  have lt0 : ∀ x ∈ p0, x.block < W.heap.size := by obtain ⟨m, hm⟩ := k0; exact DataW.trod_lt m _ _ _ hm
  obtain ⟨z0, w0⟩ : ∃ zs, IsRow .u8 W a0 len0 cap0 zs := by
    obtain ⟨fuel, hf⟩ := h0
    rcases open_ints Try.underlying25 Try.underlying5 (by kernel_rfl) hf with ⟨hcs, _⟩ | ⟨x, l, c, zs, hcs, _, hl, hm, hz, _, hcell, hwz⟩
    · simp [Value.cells] at hcs
      obtain ⟨rfl, rfl, rfl⟩ := hcs
      exact ⟨[], .inl ⟨rfl, rfl, rfl, rfl⟩⟩
    · simp [Value.cells] at hcs
      obtain ⟨rfl, rfl, rfl⟩ := hcs
      exact ⟨zs, .inr ⟨_, rfl, hl, hm, by simpa using hz, hcell, hwz⟩⟩
  obtain ⟨a1, len1, cap1, rfl⟩ := okWide_slice Try.underlying25 (hval 1 25 v1 rfl rfl)
  have k1 := h1
  have lt1 : ∀ x ∈ p1, x.block < W.heap.size := by obtain ⟨m, hm⟩ := k1; exact DataW.trod_lt m _ _ _ hm
  obtain ⟨z1, w1⟩ : ∃ zs, IsRow .u8 W a1 len1 cap1 zs := by
    obtain ⟨fuel, hf⟩ := h1
    rcases open_ints Try.underlying25 Try.underlying5 (by kernel_rfl) hf with ⟨hcs, _⟩ | ⟨x, l, c, zs, hcs, _, hl, hm, hz, _, hcell, hwz⟩
    · simp [Value.cells] at hcs
      obtain ⟨rfl, rfl, rfl⟩ := hcs
      exact ⟨[], .inl ⟨rfl, rfl, rfl, rfl⟩⟩
    · simp [Value.cells] at hcs
      obtain ⟨rfl, rfl, rfl⟩ := hcs
      exact ⟨zs, .inr ⟨_, rfl, hl, hm, by simpa using hz, hcell, hwz⟩⟩
  obtain ⟨a2, rfl, rfl, rfl, w2⟩ := open_int Try.underlying3 (hval 2 3 v2 rfl rfl) h2
  obtain ⟨a3, rfl, rfl, rfl, w3⟩ := open_int Try.underlying5 (hval 3 5 v3 rfl rfl) h3
  clear hA0 hval0
  refine (walk a0 len0 cap0 z0 a1 len1 cap1 z1 a2 a3 W w0 w1 w2 w3).mono fun e W' ⟨he, bel⟩ => ?_
  subst he
  exact ⟨_, rfl, _, _, _, [], _, [], hW', trodAll_mk1 (shut_bool Try.underlying4 _), (trodAll_cons_mk (Below.trod laidOut (by kernel_rfl) (of_decide_eq_true (by kernel_rfl)) k0 bel lt0) (trodAll_cons_mk (Below.trod laidOut (by kernel_rfl) (of_decide_eq_true (by kernel_rfl)) k1 bel lt1) (trodAll_cons_mk (shut_int Try.underlying3 w2) (trodAll_cons_mk (shut_int Try.underlying5 w3) trodAll_mk0)))), rfl, bel.frame _, fun h => by cases h⟩

theorem over : Rows.fnSameQuestionForgivesOnlyCaseOfNameLettersRow.holds Try.pinned (OpenSpec.ofChange Rows.fnSameQuestionForgivesOnlyCaseOfNameLettersSpec) :=
  OpenClaim.holds_of_wide 4 Try.f4 rfl rfl rfl rfl rfl rfl rfl ⟨rfl, rfl, rfl, rfl, rfl⟩ rfl rfl rfl rfl rfl (by kernel_rfl) Try.func4 (by kernel_rfl)
    (of_decide_eq_true (by kernel_rfl)) (by unfold Func.isWrapper; first | (rw [if_pos (by decide +kernel)]; kernel_rfl) | (rw [if_neg (by decide +kernel)]; exact ⟨rfl, rfl⟩))
    (fun os started H enc _ => lifted os started H enc)

/-- ████ THE STATEMENT ████ -/
theorem proved : Rows.FnSameQuestionForgivesOnlyCaseOfNameLettersSaid := over
#print axioms proved
end Go.Proofs.Qxb6619535a.fnSameQuestionForgivesOnlyCaseOfNameLetters
