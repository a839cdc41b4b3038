/-
  THE WALKS of ZZnewDominatorTree, dominates, ZZdominates, zzReachesRoot and the byte guards.
-/
import Derived.Test.Qxb6618787aNumber
import Derived.Deep.QuietTactic
import Derived.BigQuiet
namespace Go.Proofs.Qxb6618787a
open Go.RowKit Go.Deep
open Go.Proofs.Qxb6618787a.Tree

theorem cell_lt {w : World} {a : Addr} {v : Value} (h : w.cell? a = some v) : a.block < w.heap.size := by
  by_cases hlt : a.block < w.heap.size
  · exact hlt
  · exfalso
    unfold World.cell? at h
    rw [Array.getElem?_eq_none (by omega)] at h
    cases h

theorem ret_bool {a b : Bool} (h : a = b) : Ending.returned (.bool a) = .returned (.bool b) := by rw [h]

/-- The tree behind the pointer: two slices of n numbers. -/
structure IsTree (D P0 P1 n : Nat) (pre post : Nat → Int) (w : World) : Prop where
  c0 : w.cell? ⟨D, 0, none⟩ = some (.slice (some ⟨P0, 0, none⟩) n n)
  c1 : w.cell? ⟨D, 1, none⟩ = some (.slice (some ⟨P1, 0, none⟩) n n)
  rpre : w.rowIs P0 21 n (fun j => .int .i32 (pre j))
  rpost : w.rowIs P1 21 n (fun j => .int .i32 (post j))

/-- 'ZZnewDominatorTree'. -/
theorem new_any (v0 v1 : Value) (a0 a1 : Option Addr) (l0 k0 l1 k1 : Nat) (w : World) (h0 : v0 = .slice a0 l0 k0) (h1 : v1 = .slice a1 l1 k1) :
    Calls Try.prog 8 #[v0, v1] w fun e w' => e = .returned (.pointer (some ⟨w.heap.size, 0, none⟩)) ∧ w' = w.alloc (.cells #[v0, v1] 45) := by
  subst h0 h1
  go_enter Try.func8, Try.ntmps8
  go_wp2
  go_ret
  exact ⟨rfl, rfl⟩

/-- 'dominates', the three numbers that it reads as letters. -/
theorem dom_core (D P0 P1 n a b : Nat) (x y z : Int) (w : World) (ha : a < n) (hb : b < n)
    (c0 : w.cell? ⟨D, 0, none⟩ = some (.slice (some ⟨P0, 0, none⟩) n n)) (c1 : w.cell? ⟨D, 1, none⟩ = some (.slice (some ⟨P1, 0, none⟩) n n))
    (cx : w.cell? ⟨P0, a, none⟩ = some (.int .i32 x)) (cy : w.cell? ⟨P0, b, none⟩ = some (.int .i32 y)) (cz : w.cell? ⟨P1, a, none⟩ = some (.int .i32 z)) :
    Calls Try.prog 20 #[.pointer (some ⟨D, 0, none⟩), .int .i64 (a : Int), .int .i64 (b : Int)] w fun e w' => e = .returned (.bool (decide (x ≤ y) && decide (y < z))) ∧ ∃ q, w' = w.drewN q := by
  have ha' : (a : Int) < (n : Int) := by omega
  have hb' : (b : Int) < (n : Int) := by omega
  by_cases h : x ≤ y
  · have hd : decide (x ≤ y) = true := decide_eq_true h
    go_enter Try.func20, Try.ntmps20
    go_wp2
    go_quiet (fail)
    go_wp2
    go_ret
    exact ⟨ret_bool (by rw [hd]; rfl), _, rfl⟩
  · have hd : decide (x ≤ y) = false := decide_eq_false h
    go_enter Try.func20, Try.ntmps20
    go_wp2
    go_quiet (fail)
    go_wp2
    go_ret
    exact ⟨ret_bool (by rw [hd]; rfl), _, rfl⟩

/-- 'ZZdominates'. -/
theorem zzdom_core (D P0 P1 n a b : Nat) (x y z : Int) (w : World) (ha : a < n) (hb : b < n)
    (c0 : w.cell? ⟨D, 0, none⟩ = some (.slice (some ⟨P0, 0, none⟩) n n)) (c1 : w.cell? ⟨D, 1, none⟩ = some (.slice (some ⟨P1, 0, none⟩) n n))
    (cx : w.cell? ⟨P0, a, none⟩ = some (.int .i32 x)) (cy : w.cell? ⟨P0, b, none⟩ = some (.int .i32 y)) (cz : w.cell? ⟨P1, a, none⟩ = some (.int .i32 z)) :
    Calls Try.prog 9 #[.pointer (some ⟨D, 0, none⟩), .int .i64 (a : Int), .int .i64 (b : Int)] w fun e w' => e = .returned (.bool (decide (x ≤ y) && decide (y < z))) ∧ ∃ q, w' = w.drewN q := by
  have C : Hid (Calls Try.prog 20 #[.pointer (some ⟨D, 0, none⟩), .int .i64 (a : Int), .int .i64 (b : Int)] w fun e w' => e = .returned (.bool (decide (x ≤ y) && decide (y < z))) ∧ ∃ q, w' = w.drewN q) := dom_core D P0 P1 n a b x y z w ha hb c0 c1 cx cy cz
  generalize (decide (x ≤ y) && decide (y < z)) = r at *
  clear cx cy cz c0 c1
  go_enter Try.func9, Try.ntmps9
  go_wp2_with fail
  refine C.out.mono ?_
  rintro e w' ⟨rfl, q, rfl⟩
  go_wp2
  go_ret
  exact ⟨rfl, q, rfl⟩

theorem zzdom_any {D P0 P1 n : Nat} {par : Nat → Int} {w : World} (h : IsTree D P0 P1 n (preV n par) (postV n par) w) (a b : Nat) (ha : a < n) (hb : b < n) :
    Calls Try.prog 9 #[.pointer (some ⟨D, 0, none⟩), .int .i64 (a : Int), .int .i64 (b : Int)] w fun e w' => e = .returned (.bool (domB n par a b)) ∧ ∃ q, w' = w.drewN q :=
  zzdom_core D P0 P1 n a b _ _ _ w ha hb h.c0 h.c1 (h.rpre.cell ha) (h.rpre.cell hb) (h.rpost.cell ha)

theorem heap_drewN (w : World) (q : Nat) : (w.drewN q).heap = w.heap := by
  simp [World.drewN]

theorem IsTree.drewN {D P0 P1 n : Nat} {pre post : Nat → Int} {w : World} (h : IsTree D P0 P1 n pre post w) (q : Nat) : IsTree D P0 P1 n pre post (w.drewN q) :=
  ⟨by rw [World.cell?_of_block (w := w) (by rw [heap_drewN])]; exact h.c0, by rw [World.cell?_of_block (w := w) (by rw [heap_drewN])]; exact h.c1, h.rpre.of_block (by rw [heap_drewN]), h.rpost.of_block (by rw [heap_drewN])⟩

theorem zzdom_at {D P0 P1 n : Nat} {par : Nat → Int} {W : World} (h : IsTree D P0 P1 n (preV n par) (postV n par) W) (a b : Nat) (x y : Int) (hx : x = (a : Int)) (hy : y = (b : Int)) (ha : a < n) (hb : b < n) (g : Bool) (hg : domB n par a b = g) (q : Nat) :
    Calls Try.prog 9 #[.pointer (some ⟨D, 0, none⟩), .int .i64 x, .int .i64 y] (W.drewN q) fun e w' => e = .returned (.bool g) ∧ ∃ q', w' = W.drewN q' := by
  subst hx hy
  refine (zzdom_any (h.drewN q) a b ha hb).mono ?_
  rintro e w' ⟨rfl, q', rfl⟩
  rw [hg]
  exact ⟨rfl, q + q', by rw [World.drewN_drewN]⟩

theorem reach_at {W : World} {b off n cap : Nat} {par : Nat → Int} (x : Int) (hc : ∀ i, i < n → W.cell? ⟨b, off + i, none⟩ = some (.int .i64 (par i))) (r : Bool) (hr : rr n par (n + 1) x = r) (q : Nat)
    (h : ∀ (v : Int) (w : World), (∀ i, i < n → w.cell? ⟨b, off + i, none⟩ = some (.int .i64 (par i))) → Calls Try.prog 10 #[.slice (some ⟨b, off, none⟩) n cap, .int .i64 v] w fun e w' => e = .returned (.bool (rr n par (n + 1) v)) ∧ w' = w) :
    Calls Try.prog 10 #[.slice (some ⟨b, off, none⟩) n cap, .int .i64 x] (W.drewN q) fun e w' => e = .returned (.bool r) ∧ ∃ q', w' = W.drewN q' := by
  refine (h x (W.drewN q) (fun i hi => hc i hi)).mono ?_
  rintro e w' ⟨rfl, rfl⟩
  rw [hr]
  exact ⟨rfl, q, rfl⟩

/-- Behind zzNumber and ZZnewDominatorTree. -/
theorem tree_made {w w1 : World} {b off n : Nat} {par : Nat → Int} (hb : b < w.heap.size) (hbel : Below w.heap.size w w1)
    (hpre : w1.rowIs w.heap.size 21 n (fun j => .int .i32 (preV n par j))) (hpost : w1.rowIs (w.heap.size + 1) 21 n (fun j => .int .i32 (postV n par j)))
    (hc : ∀ i, i < n → w.cell? ⟨b, off + i, none⟩ = some (.int .i64 (par i))) :
    IsTree w1.heap.size w.heap.size (w.heap.size + 1) n (preV n par) (postV n par) (w1.alloc (.cells #[.slice (some ⟨w.heap.size, 0, none⟩) n n, .slice (some ⟨w.heap.size + 1, 0, none⟩) n n] 45)) ∧
    Below w.heap.size w (w1.alloc (.cells #[.slice (some ⟨w.heap.size, 0, none⟩) n n, .slice (some ⟨w.heap.size + 1, 0, none⟩) n n] 45)) ∧
    ∀ i, i < n → (w1.alloc (.cells #[.slice (some ⟨w.heap.size, 0, none⟩) n n, .slice (some ⟨w.heap.size + 1, 0, none⟩) n n] 45)).cell? ⟨b, off + i, none⟩ = some (.int .i64 (par i)) := by
  have hB := hbel.alloc hbel.size (.cells #[.slice (some ⟨w.heap.size, 0, none⟩) n n, .slice (some ⟨w.heap.size + 1, 0, none⟩) n n] 45)
  refine ⟨⟨?_, ?_, hpre.alloc _, hpost.alloc _⟩, hB, ?_⟩
  · unfold World.cell?
    rw [blk_alloc_new]
    rfl
  · unfold World.cell?
    rw [blk_alloc_new]
    rfl
  · intro i hi
    rw [hB.cell (by exact hb)]
    exact hc i hi

/-- 'zzReachesRoot'. -/
theorem reach_any (b off n cap : Nat) (par : Nat → Int) (v : Int) (w : World) (hn2 : n ≤ 65536) (hc : ∀ i, i < n → w.cell? ⟨b, off + i, none⟩ = some (.int .i64 (par i))) :
    Calls Try.prog 10 #[.slice (some ⟨b, off, none⟩) n cap, .int .i64 v] w fun e w' => e = .returned (.bool (rr n par (n + 1) v)) ∧ w' = w := by
  go_enter Try.func10, Try.ntmps10
  go_wp2
  go_loop [5, 6] (fun u5 u6 => ∃ (st : Nat) (x : Int), u5 = .int .i64 x ∧ u6 = .int .i64 (st : Int) ∧ st ≤ n + 1 ∧ Hid (rr n par (n + 1) v = rr n par (n + 1 - st) x)) (fun _ u6 => n + 1 - (intOf u6).toNat)
  case atStart => exact ⟨0, v, rfl, rfl, by omega, rfl⟩
  case round =>
    obtain ⟨st, x, rfl, rfl, hst, HX⟩ := hrel
    by_cases hlt : st ≤ n
    · have hf : n + 1 - st = (n - st) + 1 := by omega
      by_cases hx0 : x = 0
      · subst hx0
        have HE : Hid (rr n par (n + 1) v = true) := by have := HX.out; rw [hf] at this; rw [Hid, this]; simp [rr]
        clear HX hf
        go_wp2
        go_ret
        exact ⟨ret_bool HE.out.symm, rfl⟩
      · have hx0' : (x == 0) = false := by simpa using hx0
        by_cases hneg : x < 0
        · have HE : Hid (rr n par (n + 1) v = false) := by have := HX.out; rw [hf] at this; rw [Hid, this]; simp [rr, hx0, hneg]
          clear HX hf hx0
          go_wp2
          go_ret
          exact ⟨ret_bool HE.out.symm, rfl⟩
        · by_cases hge : (n : Int) ≤ x
          · have HE : Hid (rr n par (n + 1) v = false) := by have := HX.out; rw [hf] at this; rw [Hid, this]; simp [rr, hx0, hge]
            clear HX hf hx0
            go_wp2
            go_ret
            exact ⟨ret_bool HE.out.symm, rfl⟩
          · obtain ⟨p, rfl⟩ : ∃ p : Nat, x = (p : Int) := ⟨x.toNat, by omega⟩
            have hp : p < n := by omega
            have cp := hc p hp
            have HE : Hid (rr n par (n + 1) v = rr n par (n + 1 - (st + 1)) (par p)) := by
              have e : rr n par (n - st + 1) (p : Int) = rr n par (n - st) (par p) := by
                rw [rr, if_neg hx0, if_neg (by omega), Int.toNat_natCast]
              have := HX.out
              rw [hf, e] at this
              rw [Hid, this]
              congr 1
              omega
            clear HX hf hx0
            go_wp2
            go_round
            case rel => exact ⟨st + 1, par p, rfl, by go_num, by omega, HE⟩
            case measure => simp [intOf]; omega
    · have hs : st = n + 1 := by omega
      subst hs
      have HE : Hid (rr n par (n + 1) v = false) := by have := HX.out; rw [Nat.sub_self] at this; exact this
      clear HX
      go_wp2
      go_ret
      exact ⟨ret_bool HE.out.symm, rfl⟩

/-- The byte guards. -/
theorem bytes6 (a : Option Addr) (n cap : Nat) (x y : Int) (w : World) (hn : n ≤ 65536) :
    Calls Try.prog 6 #[.slice a n cap, .int .i64 x, .int .i64 y] w fun e w' => e = .returned (.bool true) ∧ w' = w := by
  go_enter Try.func6, Try.ntmps6
  go_wp2
  go_ret
  exact ⟨rfl, rfl⟩
theorem bytes11 (a : Option Addr) (n cap : Nat) (x y z : Int) (w : World) (hn : n ≤ 65536) :
    Calls Try.prog 11 #[.slice a n cap, .int .i64 x, .int .i64 y, .int .i64 z] w fun e w' => e = .returned (.bool true) ∧ w' = w := by
  go_enter Try.func11, Try.ntmps11
  go_wp2
  go_ret
  exact ⟨rfl, rfl⟩

end Go.Proofs.Qxb6618787a
