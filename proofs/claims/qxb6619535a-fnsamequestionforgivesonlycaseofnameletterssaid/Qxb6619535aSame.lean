/-
  THE WALK of SameQuestion.
-/
import Derived.Test.Qxb6619535aLower
import Derived.Deep.OwnRows
import Derived.RegionTactic
import Derived.BigRegion
import Derived.Below
import Derived.Deep.QuietTactic
import Derived.BigQuiet
import Derived.Deep.RegionWith
import Derived.Laws.BytesArg
namespace Go.Proofs.Qxb6619535a
open Go.RowKit Go.Deep

/-- The octets behind a slice. -/
structure Oct (w : World) (a : Option Addr) (n : Nat) (b off : Nat) (A : Nat → Int) : Prop where
  addr : 0 < n → a = some ⟨b, off, none⟩
  cell : ∀ i, i < n → w.cell? ⟨b, off + i, none⟩ = some (.int .u8 (A i))
  rng : ∀ i, i < n → 0 ≤ A i ∧ A i ≤ 255

theorem heap_drewN (w : World) (q : Nat) : (w.drewN q).heap = w.heap := by
  simp [World.drewN]

theorem Oct.drewN {w : World} {a : Option Addr} {n b off : Nat} {A : Nat → Int} (h : Oct w a n b off A) (q : Nat) : Oct (w.drewN q) a n b off A :=
  ⟨h.addr, fun i hi => by rw [World.cell?_of_block (w := w) (by rw [heap_drewN])]; exact h.cell i hi, h.rng⟩

/-- The same question, plainly. -/
def Same (n m : Nat) (A Q : Nat → Int) : Prop := n = m ∧ 4 ≤ m ∧ (∀ i, i < m - 4 → lowV (A i) = lowV (Q i)) ∧ ∀ i, i < 4 → A (m - 4 + i) = Q (m - 4 + i)

def sameB (n m : Nat) (A Q : Nat → Int) : Bool :=
  decide (n = m) && (decide (4 ≤ m) && ((List.range (m - 4)).all (fun i => decide (lowV (A i) = lowV (Q i))) && (List.range 4).all (fun i => decide (A (m - 4 + i) = Q (m - 4 + i)))))

theorem sameB_same (n m : Nat) (A Q : Nat → Int) : sameB n m A Q = true ↔ Same n m A Q := by
  unfold sameB Same
  simp only [Bool.and_eq_true, decide_eq_true_eq, List.all_eq_true, List.mem_range]

theorem sameB_true {n m : Nat} {A Q : Nat → Int} (h : Same n m A Q) : sameB n m A Q = true := (sameB_same n m A Q).2 h
theorem sameB_false {n m : Nat} {A Q : Nat → Int} (h : ¬ Same n m A Q) : sameB n m A Q = false := by
  cases hb : sameB n m A Q with
  | false => rfl
  | true => exact absurd ((sameB_same n m A Q).1 hb) h

theorem byte_inj {x y : Int} (hx : 0 ≤ x ∧ x ≤ 255) (hy : 0 ≤ y ∧ y ≤ 255) (h : UInt8.ofNat x.toNat = UInt8.ofNat y.toNat) : x = y := by
  have h2 := congrArg UInt8.toNat h
  simp at h2
  omega

def tail4 (A : Nat → Int) (k : Nat) : List Int := [A k, A (k + 1), A (k + 2), A (k + 3)]

theorem tail_eq {A Q : Nat → Int} {k : Nat} (ha : ∀ i, i < k + 4 → 0 ≤ A i ∧ A i ≤ 255) (hq : ∀ i, i < k + 4 → 0 ≤ Q i ∧ Q i ≤ 255) :
    strOfNums (tail4 A k) = strOfNums (tail4 Q k) ↔ ∀ i, i < 4 → A (k + i) = Q (k + i) := by
  constructor
  · intro h
    have h2 := congrArg (fun s : ByteArray => s.data.toList) h
    simp only [strOfNums_data, tail4, List.map_cons, List.map_nil, List.cons.injEq, and_true] at h2
    obtain ⟨h0, h1, h2, h3⟩ := h2
    intro i hi
    have : i = 0 ∨ i = 1 ∨ i = 2 ∨ i = 3 := by omega
    rcases this with rfl | rfl | rfl | rfl
    · exact byte_inj (ha _ (by omega)) (hq _ (by omega)) h0
    · exact byte_inj (ha _ (by omega)) (hq _ (by omega)) h1
    · exact byte_inj (ha _ (by omega)) (hq _ (by omega)) h2
    · exact byte_inj (ha _ (by omega)) (hq _ (by omega)) h3
  · intro h
    have e0 := h 0 (by omega)
    have e1 := h 1 (by omega)
    have e2 := h 2 (by omega)
    have e3 := h 3 (by omega)
    rw [Nat.add_zero] at e0
    unfold tail4
    rw [e0, e1, e2, e3]

theorem tail_cell {w : World} {b o k : Nat} {A : Nat → Int} (h : ∀ i, i < k + 4 → w.cell? ⟨b, o + i, none⟩ = some (.int .u8 (A i))) (cap : Nat) :
    (convert 25 9 (.slice (some ⟨b, o + k, none⟩) 4 cap)).run Try.prog w.drew = .ok (.string (strOfNums (tail4 A k))) w.drew := by
  refine run_convert_bytes_arg w.drew 25 5 Try.underlying25 Try.underlying5 b (o + k) 4 cap (tail4 A k) rfl ?_ 9 Try.underlying9
  intro i hi
  show w.cell? _ = _
  rw [Nat.add_assoc, h (k + i) (by omega)]
  have : i = 0 ∨ i = 1 ∨ i = 2 ∨ i = 3 := by omega
  rcases this with rfl | rfl | rfl | rfl <;> rfl

theorem same_short (a b : Option Addr) (n m c d : Nat) (A Q : Nat → Int) (w : World) (hn : n ≤ 1048576) (hm : m ≤ 1048576) (h : n ≠ m ∨ m < 4) :
    Calls Try.prog 8 #[.slice a n c, .slice b m d] w fun e w' => e = .returned (.bool (sameB n m A Q)) ∧ w' = w := by
  have HE : Hid (sameB n m A Q = false) := sameB_false (fun ⟨h1, h2, _⟩ => by omega)
  by_cases hne : n = m
  · subst hne
    have h4 : (n : Int) < 4 := by omega
    clear h
    go_enter Try.func8, Try.ntmps8
    go_wp2
    go_ret
    exact ⟨ret_bool HE.out.symm, rfl⟩
  · have hne' : ((n : Int) != (m : Int)) = true := by simp; omega
    clear h hne
    go_enter Try.func8, Try.ntmps8
    go_wp2
    go_ret
    exact ⟨ret_bool HE.out.symm, rfl⟩

def intN : Value → Nat | .int _ z => z.toNat | _ => 0

set_option maxHeartbeats 1000000 in
theorem same_long (k c d : Nat) (b o b' o' : Nat) (A Q : Nat → Int) (w : World) (hk : k ≤ 1048576) (hc : k + 4 ≤ c) (hd : k + 4 ≤ d)
    (hA : Oct w (some ⟨b, o, none⟩) (k + 4) b o A) (hQ : Oct w (some ⟨b', o', none⟩) (k + 4) b' o' Q) :
    Calls Try.prog 8 #[.slice (some ⟨b, o, none⟩) (k + 4) c, .slice (some ⟨b', o', none⟩) (k + 4) d] w fun e w' => e = .returned (.bool (sameB (k + 4) (k + 4) A Q)) ∧ ∃ q, w' = w.drewN q := by
  have HA : Hid (Oct w (some ⟨b, o, none⟩) (k + 4) b o A) := hA
  have HQ : Hid (Oct w (some ⟨b', o', none⟩) (k + 4) b' o' Q) := hQ
  clear hA hQ
  go_enter Try.func8, Try.ntmps8
  go_wp2
  go_loopw [6, 21] (fun _ u21 wr => ∃ (i q : Nat), u21 = .int .i64 (i : Int) ∧ i ≤ k ∧ Hid (wr = w.drewN q) ∧ Hid (∀ j, j < i → lowV (A j) = lowV (Q j))) (fun _ u21 _ => k - intN u21)
  case atStart => exact ⟨0, 0, rfl, Nat.zero_le _, rfl, fun j hj => by omega⟩
  case round =>
    obtain ⟨i, q, rfl, hi, HW, HI⟩ := hrel
    have OA : Hid (Oct wr (some ⟨b, o, none⟩) (k + 4) b o A) := by rw [Hid, HW.out]; exact HA.out.drewN q
    have OQ : Hid (Oct wr (some ⟨b', o', none⟩) (k + 4) b' o' Q) := by rw [Hid, HW.out]; exact HQ.out.drewN q
    by_cases hlt : i < k
    · have hlt' : (i : Int) < (k : Int) := by omega
      have hlt2 : (i : Int) < ((k + 4 : Nat) : Int) := by omega
      have cA := OA.out.cell i (by omega)
      have cQ := OQ.out.cell i (by omega)
      have RA : Hid (0 ≤ A i ∧ A i ≤ 255) := OA.out.rng i (by omega)
      have RQ : Hid (0 ≤ Q i ∧ Q i ≤ 255) := OQ.out.rng i (by omega)
      obtain ⟨x, hx⟩ : ∃ x, x = A i := ⟨_, rfl⟩
      obtain ⟨y, hy⟩ : ∃ y, y = Q i := ⟨_, rfl⟩
      rw [← hx] at cA RA
      rw [← hy] at cQ RQ
      have HX : Hid (x = A i) := hx
      have HY : Hid (y = Q i) := hy
      clear hx hy
      go_wp2
      go_quiet (first | (go_at_call_of 9 x; exact Calls.quiet_of_same (lower_any x _ RA.out.1 RA.out.2)) | (go_at_call_of 9 y; exact Calls.quiet_of_same (lower_any y _ RQ.out.1 RQ.out.2)))
      by_cases he : lowV x = lowV y
      · have he' : (lowV x != lowV y) = false := by rw [he]; simp
        have HE : Hid (lowV x = lowV y) := he
        clear he
        go_wp2
        go_roundw
        case rel =>
          refine ⟨i + 1, _, by go_num, by omega, by rw [Hid, HW.out, World.drewN_drewN], ?_⟩
          intro j hj
          by_cases e : j = i
          · subst e
            rw [← HX.out, ← HY.out]; exact HE.out
          · exact HI.out j (by omega)
        case measure => simp [intN]; omega
      · have he' : (lowV x != lowV y) = true := by simpa using he
        have HE : Hid (sameB (k + 4) (k + 4) A Q = false) := sameB_false (fun h => he (by rw [HX.out, HY.out]; exact h.2.2.1 i (by omega)))
        clear he
        go_wp2
        go_ret
        exact ⟨ret_bool HE.out.symm, _, by rw [HW.out, World.drewN_drewN]⟩
    · have hik : i = k := by omega
      subst hik
      have tA := tail_cell OA.out.cell (c - i)
      have tQ := tail_cell OQ.out.cell (d - i)
      go_wp2
      have HT : Hid (((strOfNums (tail4 A i)).toList == (strOfNums (tail4 Q i)).toList) = sameB (i + 4) (i + 4) A Q) := by
        rw [Hid, ByteArray.toList_eq, ByteArray.toList_eq]
        have ht := tail_eq (A := A) (Q := Q) (k := i) OA.out.rng OQ.out.rng
        by_cases hs : ∀ j, j < 4 → A (i + j) = Q (i + j)
        · rw [ht.2 hs, sameB_true ⟨rfl, by omega, fun j hj => HI.out j (by omega), fun j hj => by rw [Nat.add_sub_cancel]; exact hs j hj⟩]
          simp
        · rw [sameB_false (fun h => hs (fun j hj => by have := h.2.2.2 j hj; rwa [Nat.add_sub_cancel] at this))]
          rw [beq_eq_false_iff_ne]
          intro e
          exact hs (ht.1 (ByteArray.ext (Array.toList_inj.1 e)))
      go_region
      all_goals
        go_wp2
        go_ret
        exact ⟨ret_bool HT.out, q + 1, by rw [HW.out]; rfl⟩

/-- 'SameQuestion'. -/
theorem same_any {a a' : Option Addr} {n m c d b o b' o' : Nat} {A Q : Nat → Int} {w : World} (hn : n ≤ 1048576) (hm : m ≤ 1048576) (hc : n ≤ c) (hd : m ≤ d)
    (hA : Oct w a n b o A) (hQ : Oct w a' m b' o' Q) :
    Calls Try.prog 8 #[.slice a n c, .slice a' m d] w fun e w' => e = .returned (.bool (sameB n m A Q)) ∧ ∃ q, w' = w.drewN q := by
  by_cases h : n ≠ m ∨ m < 4
  · refine (same_short a a' n m c d A Q w hn hm h).mono ?_
    rintro e w' ⟨rfl, rfl⟩
    exact ⟨rfl, 0, rfl⟩
  · have hnm : n = m := by omega
    subst hnm
    obtain ⟨k, rfl⟩ : ∃ k, n = k + 4 := ⟨n - 4, by omega⟩
    obtain rfl := hA.addr (by omega)
    obtain rfl := hQ.addr (by omega)
    exact same_long k c d b o b' o' A Q w (by omega) hc hd hA hQ

/-! ### The plain laws -/

theorem xor_bd (c x : Int) : 0 ≤ bits .xor .u8 c x ∧ bits .xor .u8 c x ≤ 255 := by
  have hlt := (BitVec.ofInt 8 c ^^^ BitVec.ofInt 8 x).isLt
  have : bits .xor .u8 c x = ((BitVec.ofInt 8 c ^^^ BitVec.ofInt 8 x).toNat : Int) := by
    show IntKind.wrap .u8 ((BitVec.ofInt 8 c ^^^ BitVec.ofInt 8 x).toNat : Int) = _
    generalize (BitVec.ofInt 8 c ^^^ BitVec.ofInt 8 x).toNat = n at hlt
    simp [IntKind.wrap, IntKind.bits, IntKind.signed]
    omega
  omega

theorem xor_back (c k : Int) (k0 : 0 ≤ k) (k1 : k ≤ 255) : bits .xor .u8 c (bits .xor .u8 c k) = k :=
  (xor_eq c _ k (xor_bd c k).1 (xor_bd c k).2 k0 k1).2 rfl

theorem xor_inj (c x k : Int) (x0 : 0 ≤ x) (x1 : x ≤ 255) (k0 : 0 ≤ k) (k1 : k ≤ 255) (h : bits .xor .u8 c x = bits .xor .u8 c k) : x = k := by
  rw [← xor_back c x x0 x1, h, xor_back c k k0 k1]

theorem xor_zero (c : Int) (h0 : 0 ≤ c) (h1 : c ≤ 255) : bits .xor .u8 c 0 = c := by
  have := oct_all (fun c => decide (bits .xor .u8 c 0 = c)) (by decide +kernel) c h0 h1
  simpa using this

theorem xor_self_iff (c x : Int) (h0 : 0 ≤ c) (h1 : c ≤ 255) (x0 : 0 ≤ x) (x1 : x ≤ 255) : c = bits .xor .u8 c x ↔ x = 0 := by
  constructor
  · intro h
    refine xor_inj c x 0 x0 x1 (by omega) (by omega) ?_
    rw [← h, xor_zero c h0 h1]
  · intro h
    rw [h, xor_zero c h0 h1]

theorem low_xor (c x : Int) (h0 : 0 ≤ c) (h1 : c ≤ 255) (x0 : 0 ≤ x) (x1 : x ≤ 255) : lowV c = lowV (bits .xor .u8 c x) ↔ (x = 0 ∨ (x = 32 ∧ letB c = true)) := by
  rw [pair c _ h0 h1 (xor_bd c x).1 (xor_bd c x).2, xor_self_iff c x h0 h1 x0 x1, xor_back c x x0 x1]

/-- b: a, the octet i xor-ed by x. -/
def turned (A : Nat → Int) (i : Nat) (x : Int) (j : Nat) : Int := if j = i then bits .xor .u8 (A i) x else A j

theorem same_turned {n i : Nat} {A : Nat → Int} {x : Int} (hi : i < n) (hA : ∀ j, j < n → 0 ≤ A j ∧ A j ≤ 255) (x0 : 0 ≤ x) (x1 : x ≤ 255) :
    Same n n A (turned A i x) ↔ 4 ≤ n ∧ (x = 0 ∨ (i < n - 4 ∧ x = 32 ∧ letB (A i) = true)) := by
  obtain ⟨h0, h1⟩ := hA i hi
  constructor
  · rintro ⟨_, h4, hl, ht⟩
    refine ⟨h4, ?_⟩
    by_cases hin : i < n - 4
    · have := hl i hin
      unfold turned at this
      rw [if_pos rfl, low_xor _ _ h0 h1 x0 x1] at this
      rcases this with h | ⟨h, h'⟩
      · exact Or.inl h
      · exact Or.inr ⟨hin, h, h'⟩
    · have := ht (i - (n - 4)) (by omega)
      rw [show n - 4 + (i - (n - 4)) = i by omega] at this
      unfold turned at this
      rw [if_pos rfl, xor_self_iff _ _ h0 h1 x0 x1] at this
      exact Or.inl this
  · rintro ⟨h4, h⟩
    refine ⟨rfl, h4, fun j hj => ?_, fun j hj => ?_⟩
    · unfold turned
      by_cases e : j = i
      · rw [if_pos e, e, low_xor _ _ h0 h1 x0 x1]
        rcases h with h | ⟨_, h, h'⟩
        · exact Or.inl h
        · exact Or.inr ⟨h, h'⟩
      · rw [if_neg e]
    · unfold turned
      by_cases e : n - 4 + j = i
      · rw [if_pos e, e, xor_self_iff _ _ h0 h1 x0 x1]
        rcases h with h | ⟨h, _, _⟩
        · exact h
        · omega
      · rw [if_neg e]

theorem sameB_iff {n m n' m' : Nat} {A Q A' Q' : Nat → Int} (h : Same n m A Q ↔ Same n' m' A' Q') : sameB n m A Q = sameB n' m' A' Q' := by
  by_cases hs : Same n m A Q
  · rw [sameB_true hs, sameB_true (h.1 hs)]
  · rw [sameB_false hs, sameB_false (fun k => hs (h.2 k))]

theorem same_symm {n : Nat} {A B : Nat → Int} : sameB n n B A = sameB n n A B :=
  sameB_iff ⟨fun ⟨h1, h2, h3, h4⟩ => ⟨h1, h2, fun i hi => (h3 i hi).symm, fun i hi => (h4 i hi).symm⟩, fun ⟨h1, h2, h3, h4⟩ => ⟨h1, h2, fun i hi => (h3 i hi).symm, fun i hi => (h4 i hi).symm⟩⟩

theorem same_trans {n m : Nat} {A B Q : Nat → Int} (h : sameB n n A B = true) : sameB n m B Q = sameB n m A Q := by
  have hs : Same n n A B := by
    by_cases hs : Same n n A B
    · exact hs
    · rw [sameB_false hs] at h
      cases h
  obtain ⟨_, k2, k3, k4⟩ := hs
  refine sameB_iff ⟨?_, ?_⟩
  · rintro ⟨h1, h2, h3, h4⟩
    subst h1
    exact ⟨rfl, h2, fun i hi => (k3 i hi).trans (h3 i hi), fun i hi => (k4 i hi).trans (h4 i hi)⟩
  · rintro ⟨h1, h2, h3, h4⟩
    subst h1
    exact ⟨rfl, h2, fun i hi => (k3 i hi).symm.trans (h3 i hi), fun i hi => (k4 i hi).symm.trans (h4 i hi)⟩

end Go.Proofs.Qxb6619535a
