/-
  THE STORE AND ITS SESSIONS: what the walk of FnCancelEndsEachOnce keeps, and the walks of ZZnewStateStore, ZZaddPull, ZZnewPull, Cancel, end, ZZstorePulls, ZZpullStore, ZZpullTraffic.
-/
import Derived.Test.Qxb6618787aRows
import Derived.WalkKit
import Derived.ProofKit
import Derived.OpenShut
import Derived.WalkSpells
import Derived.WalkLawsBesides
import Derived.Deep.OwnRows
import Derived.RegionTactic
import Derived.BigRegion
import Derived.Below
import Derived.Deep.QuietTactic
import Derived.BigQuiet
import Derived.Laws.EntriesVeiled
namespace Go.Proofs.Qxb6618787a.Pull
open Go.RowKit Go.Deep

theorem info37 : (Try.prog.info? 37).map (fun i => (i.zero, i.size, i.bytes)) = some (some (.pointer none), 1, 8) := by kernel_rfl
theorem info4 : (Try.prog.info? 4).map (fun i => (i.zero, i.size, i.bytes)) = some (some (.bool false), 1, 1) := by kernel_rfl

/-- A session behind block p: its traffic, and its store (nil where it has ended). -/
def IsPull (p : Nat) (sent recv : Int) (st : Option Addr) (w : World) : Prop :=
  ∃ f, w.rowIs p 73 39 f ∧ f 0 = .int .i64 sent ∧ f 1 = .int .i64 recv ∧ f 2 = .pointer st

/-- A store behind block s: x sessions. -/
def IsStore (s : Nat) (x : Int) (w : World) : Prop := ∃ f, w.rowIs s 65 17 f ∧ f 14 = .int .i64 x

theorem IsPull.of_block {p : Nat} {sent recv : Int} {st : Option Addr} {w w' : World} (h : IsPull p sent recv st w) (e : w'.heap[p]? = w.heap[p]?) : IsPull p sent recv st w' := by
  obtain ⟨f, hf, h⟩ := h
  exact ⟨f, hf.of_block e, h⟩
theorem IsStore.of_block {p : Nat} {x : Int} {w w' : World} (h : IsStore p x w) (e : w'.heap[p]? = w.heap[p]?) : IsStore p x w' := by
  obtain ⟨f, hf, h⟩ := h
  exact ⟨f, hf.of_block e, h⟩
theorem IsPull.lt {p : Nat} {sent recv : Int} {st : Option Addr} {w : World} (h : IsPull p sent recv st w) : p < w.heap.size := by
  obtain ⟨f, hf, h⟩ := h
  exact hf.lt

/-- THE STATE: the store in block G, the slice of sessions in block G + 1 (its first r cells filled), the k sessions in the blocks behind it; 'D j': session j has ended. -/
structure St (w0 : World) (G n k r : Nat) (sent recv x : Int) (D : Nat → Bool) (w : World) : Prop where
  below : Below G w0 w
  store : IsStore G x w
  row : w.rowIs (G + 1) 37 n (fun j => .pointer (if j < r then some ⟨G + 1 + 1 + j, 0, none⟩ else none))
  pulls : ∀ j, j < k → IsPull (G + 1 + 1 + j) sent recv (if D j then none else some ⟨G, 0, none⟩) w

theorem heap_drewN (w : World) (q : Nat) : (w.drewN q).heap = w.heap := by
  simp [World.drewN]
theorem below_drewN {B : Nat} {w w' : World} (h : Below B w w') (q : Nat) : Below B w (w'.drewN q) := by
  induction q with
  | zero => exact h
  | succ q ih => exact ih.drew

namespace St
variable {w0 w : World} {G n k r : Nat} {sent recv x : Int} {D : Nat → Bool}
theorem drewN (h : St w0 G n k r sent recv x D w) (q : Nat) : St w0 G n k r sent recv x D (w.drewN q) :=
  ⟨below_drewN h.below q, h.store.of_block (by rw [heap_drewN]), h.row.of_block (by rw [heap_drewN]), fun j hj => (h.pulls j hj).of_block (by rw [heap_drewN])⟩

theorem start (w : World) (n : Nat) (sent recv : Int) (c : Array Value) (hc : c.size = 17) (h14 : c[14]? = some (.int .i64 0)) :
    St w w.heap.size n 0 0 sent recv 0 (fun _ => false) ((w.alloc (.cells c 65)).alloc (.cells (madeCells #[.pointer none] n) 37)) := by
  have s1 := nblk_alloc w (.cells c 65)
  have b1 : Below w.heap.size w (w.alloc (.cells c 65)) := (Below.refl _ _).alloc (Nat.le_refl _) _
  have r1 := World.rowIs_alloc w c 65 (fun j => c[j]?.getD undef) (fun i hi => by simp [hi])
  rw [hc] at r1
  generalize w.alloc (.cells c 65) = w1 at *
  have r2 := World.rowIs_made w1 (.pointer none) n 37
  rw [s1] at r2
  exact ⟨b1.alloc (by omega) _, ⟨_, r1.alloc _, by simp [h14]⟩, r2.congr (fun j _ => by simp), fun j hj => by omega⟩

theorem add (h : St w0 G n k r sent recv x D w) (y : Int) : St w0 G n k r sent recv y D (w.setCell ⟨G, 14, none⟩ (.int .i64 y)) := by
  obtain ⟨f, hf, _⟩ := h.store
  refine ⟨h.below.setCell (by show G ≤ G; omega) _, ⟨_, hf.set 14 _, by simp⟩, h.row.setOther (by show G + 1 ≠ G; omega) _, fun j hj => (h.pulls j hj).of_block (blk_setCell_other _ _ _ _ (by show G + 1 + 1 + j ≠ G; omega))⟩

theorem new (h : St w0 G n k r sent recv x D w) (hs : w.heap.size = G + 1 + 1 + k) (hD : D k = false) (c : Array Value) (hc : c.size = 39) (h0 : c[0]? = some (.int .i64 sent)) (h1 : c[1]? = some (.int .i64 recv)) (h2 : c[2]? = some (.pointer (some ⟨G, 0, none⟩))) :
    St w0 G n (k + 1) r sent recv x D (w.alloc (.cells c 73)) := by
  have r1 := World.rowIs_alloc w c 73 (fun j => c[j]?.getD undef) (fun i hi => by simp [hi])
  rw [hc, hs] at r1
  have hlt := h.row.lt
  refine ⟨h.below.alloc (by omega) _, h.store.of_block (blk_alloc_lt _ _ _ (by omega)), h.row.alloc _, fun j hj => ?_⟩
  by_cases e : j = k
  · subst e
    exact ⟨_, r1, by simp [h0], by simp [h1], by simp [h2, hD]⟩
  · exact (h.pulls j (by omega)).of_block (blk_alloc_lt _ _ _ (by have := (h.pulls j (by omega)).lt; omega))

theorem fill (h : St w0 G n k r sent recv x D w) (hr : r < n) : St w0 G n k (r + 1) sent recv x D (w.setCell ⟨G + 1, r, none⟩ (.pointer (some ⟨G + 1 + 1 + r, 0, none⟩))) := by
  refine ⟨h.below.setCell (by show G ≤ G + 1; omega) _, h.store.of_block (blk_setCell_other _ _ _ _ (by show G ≠ G + 1; omega)), (h.row.set r _).congr (fun j _ => ?_), fun j hj => (h.pulls j hj).of_block (blk_setCell_other _ _ _ _ (by show G + 1 + 1 + j ≠ G + 1; omega))⟩
  by_cases e : j = r
  · subst e
    simp
  · simp only [if_neg e]
    by_cases e2 : j < r
    · rw [if_pos e2, if_pos (by omega)]
    · rw [if_neg e2, if_neg (by omega)]

/-- The end of session i, as 'end' writes it. -/
theorem ended (h : St w0 G n k r sent recv x D w) {i : Nat} (hi : i < k) :
    St w0 G n k r sent recv (x - 1) (fun j => if j = i then true else D j)
      (((((w.setCell ⟨G, 14, none⟩ (.int .i64 (x - 1))).setCell ⟨G + 1 + 1 + i, 2, none⟩ (.pointer none)).setCell ⟨G + 1 + 1 + i, 3, none⟩ .nilFunc).setCell ⟨G + 1 + 1 + i, 37, none⟩ (.pointer none)).setCell ⟨G + 1 + 1 + i, 38, none⟩ (.slice none 0 0)) := by
  have hA := h.add (x - 1)
  generalize w.setCell ⟨G, 14, none⟩ (.int .i64 (x - 1)) = w1 at hA
  have other : ∀ b, b ≠ G + 1 + 1 + i → ((((w1.setCell ⟨G + 1 + 1 + i, 2, none⟩ (.pointer none)).setCell ⟨G + 1 + 1 + i, 3, none⟩ .nilFunc).setCell ⟨G + 1 + 1 + i, 37, none⟩ (.pointer none)).setCell ⟨G + 1 + 1 + i, 38, none⟩ (.slice none 0 0)).heap[b]? = w1.heap[b]? := by
    intro b hb
    rw [blk_setCell_other _ _ _ _ (by exact hb), blk_setCell_other _ _ _ _ (by exact hb), blk_setCell_other _ _ _ _ (by exact hb), blk_setCell_other _ _ _ _ (by exact hb)]
  refine ⟨(((hA.below.setCell (by show G ≤ G + 1 + 1 + i; omega) _).setCell (by show G ≤ G + 1 + 1 + i; omega) _).setCell (by show G ≤ G + 1 + 1 + i; omega) _).setCell (by show G ≤ G + 1 + 1 + i; omega) _,
    hA.store.of_block (other _ (by omega)), hA.row.of_block (other _ (by omega)), fun j hj => ?_⟩
  by_cases e : j = i
  · subst e
    obtain ⟨f, hf, f0, f1, f2⟩ := hA.pulls j hj
    exact ⟨_, (((hf.set 2 _).set 3 _).set 37 _).set 38 _, by simp [f0], by simp [f1], by simp⟩
  · have := (hA.pulls j hj).of_block (other (G + 1 + 1 + j) (by omega))
    simpa [e] using this
end St

/-! ### The walks -/

theorem bytes12 (a : Option Addr) (n cap : Nat) (x y z : Int) (w : World) (hn : n ≤ 65536) :
    Calls Try.prog 12 #[.int .i64 x, .slice a n cap, .int .i64 y, .int .i64 z] w fun e w' => e = .returned (.bool true) ∧ w' = w := by
  go_enter Try.func12, Try.ntmps12
  go_wp2
  go_ret
  exact ⟨rfl, rfl⟩

theorem store_new (w : World) : Calls Try.prog 13 #[] w fun e w' => e = .returned (.pointer (some ⟨w.heap.size, 0, none⟩)) ∧ ∃ c : Array Value, w' = w.alloc (.cells c 65) ∧ c.size = 17 ∧ c[14]? = some (.int .i64 0) := by
  go_enter Try.func13, Try.ntmps13
  go_wp2
  go_ret
  exact ⟨rfl, _, rfl, rfl, rfl⟩

theorem add_core (S : Nat) (x : Int) (w : World) (hx0 : 0 ≤ x) (hx : x ≤ 65536) (c : w.cell? ⟨S, 14, none⟩ = some (.int .i64 x)) (f : w.frozen? ⟨S, 14, none⟩ = false) :
    Calls Try.prog 14 #[.pointer (some ⟨S, 0, none⟩)] w fun e w' => e = .returned (.tuple #[]) ∧ w' = w.setCell ⟨S, 14, none⟩ (.int .i64 (x + 1)) := by
  go_enter Try.func14, Try.ntmps14
  go_wp2
  go_end0
  exact ⟨rfl, rfl⟩

theorem new_core (S : Nat) (x y : Int) (w : World) : Calls Try.prog 15 #[.pointer (some ⟨S, 0, none⟩), .int .i64 x, .int .i64 y] w fun e w' => e = .returned (.pointer (some ⟨w.heap.size, 0, none⟩)) ∧
    ∃ c : Array Value, w' = w.alloc (.cells c 73) ∧ c.size = 39 ∧ c[0]? = some (.int .i64 x) ∧ c[1]? = some (.int .i64 y) ∧ c[2]? = some (.pointer (some ⟨S, 0, none⟩)) := by
  go_enter Try.func15, Try.ntmps15
  go_wp2
  go_ret
  exact ⟨rfl, _, rfl, rfl, rfl, rfl, rfl⟩

theorem off_other {w : World} {b d i j : Nat} {v u : Value} (h : i ≠ j) (hc : w.cell? ⟨d, j, none⟩ = some u) : (w.setCell ⟨b, i, none⟩ v).cell? ⟨d, j, none⟩ = some u := by
  rw [World.cell?_setCell_other w _ _ _ (by intro e; injection e with _ e2; exact h e2)]
  exact hc

theorem end_core (S p : Nat) (x : Int) (w : World) (v3 v37 v38 : Value) (hx0 : -65536 ≤ x) (hx : x ≤ 65536) (_hne : S < p) (c : w.cell? ⟨S, 14, none⟩ = some (.int .i64 x)) (f : w.frozen? ⟨S, 14, none⟩ = false)
    (c2 : w.cell? ⟨p, 2, none⟩ = some (.pointer (some ⟨S, 0, none⟩))) (c3 : w.cell? ⟨p, 3, none⟩ = some v3) (c37 : w.cell? ⟨p, 37, none⟩ = some v37) (c38 : w.cell? ⟨p, 38, none⟩ = some v38)
    (f2 : w.frozen? ⟨p, 2, none⟩ = false) (f3 : w.frozen? ⟨p, 3, none⟩ = false) (f37 : w.frozen? ⟨p, 37, none⟩ = false) (f38 : w.frozen? ⟨p, 38, none⟩ = false) :
    Calls Try.prog 21 #[.pointer (some ⟨p, 0, none⟩)] w fun e w' => e = .returned (.tuple #[]) ∧
      w' = (((((w.setCell ⟨S, 14, none⟩ (.int .i64 (x - 1))).setCell ⟨p, 2, none⟩ (.pointer none)).setCell ⟨p, 3, none⟩ .nilFunc).setCell ⟨p, 37, none⟩ (.pointer none)).setCell ⟨p, 38, none⟩ (.slice none 0 0)) := by
  have c3' := off_other (b := p) (i := 2) (v := .pointer none) (by omega) (off_other (b := S) (i := 14) (v := .int .i64 (x - 1)) (by omega) c3)
  have c37' := off_other (b := p) (i := 3) (v := .nilFunc) (by omega) (off_other (b := p) (i := 2) (v := .pointer none) (by omega) (off_other (b := S) (i := 14) (v := .int .i64 (x - 1)) (by omega) c37))
  have c38' := off_other (b := p) (i := 37) (v := .pointer none) (by omega) (off_other (b := p) (i := 3) (v := .nilFunc) (by omega) (off_other (b := p) (i := 2) (v := .pointer none) (by omega) (off_other (b := S) (i := 14) (v := .int .i64 (x - 1)) (by omega) c38)))
  go_enter Try.func21, Try.ntmps21
  go_wp2
  go_end0
  exact ⟨rfl, rfl⟩

theorem count_any (S : Nat) (x : Int) (w : World) (c : w.cell? ⟨S, 14, none⟩ = some (.int .i64 x)) :
    Calls Try.prog 17 #[.pointer (some ⟨S, 0, none⟩)] w fun e w' => e = .returned (.int .i64 x) ∧ w' = w := by
  go_enter Try.func17, Try.ntmps17
  go_wp2
  go_ret
  exact ⟨rfl, rfl⟩

theorem store_any (p : Nat) (st : Option Addr) (w : World) (c : w.cell? ⟨p, 2, none⟩ = some (.pointer st)) :
    Calls Try.prog 18 #[.pointer (some ⟨p, 0, none⟩)] w fun e w' => e = .returned (.pointer st) ∧ w' = w := by
  go_enter Try.func18, Try.ntmps18
  go_wp2
  go_ret
  exact ⟨rfl, rfl⟩

theorem traffic_any (p : Nat) (x y : Int) (w : World) (c0 : w.cell? ⟨p, 0, none⟩ = some (.int .i64 x)) (c1 : w.cell? ⟨p, 1, none⟩ = some (.int .i64 y)) :
    Calls Try.prog 19 #[.pointer (some ⟨p, 0, none⟩)] w fun e w' => e = .returned (.tuple #[.int .i64 x, .int .i64 y]) ∧ ∃ q, w' = w.drewN q := by
  go_enter Try.func19, Try.ntmps19
  go_wp2
  go_quiet (fail)
  go_wp2
  go_ret2
  exact ⟨rfl, _, rfl⟩

/-- 'Cancel': a session that has not ended. -/
theorem cancel_live {w0 w : World} {G n k r : Nat} {sent recv x : Int} {D : Nat → Bool} (h : St w0 G n k r sent recv x D w) (i p : Nat) (hi : i < k) (hp : p = G + 1 + 1 + i) (hD : D i = false) (hx0 : -65536 ≤ x) (hx : x ≤ 65536) :
    Calls Try.prog 16 #[.pointer (some ⟨p, 0, none⟩)] w fun e w' => e = .returned (.tuple #[]) ∧ St w0 G n k r sent recv (x - 1) (fun j => if j = i then true else D j) w' ∧ ∀ b, b ≠ G → b ≠ p → w'.heap[b]? = w.heap[b]? := by
  obtain ⟨f, hf, f14⟩ := h.store
  obtain ⟨g, hg, g0, g1, g2⟩ := h.pulls i hi
  have HE := h.ended hi
  rw [← hp] at HE hg
  rw [hD] at g2
  have c : w.cell? ⟨G, 14, none⟩ = some (.int .i64 x) := by rw [hf.cell (by omega), f14]
  have c2 : w.cell? ⟨p, 2, none⟩ = some (.pointer (some ⟨G, 0, none⟩)) := by rw [hg.cell (by omega), g2]; rfl
  have E : Hid (Calls Try.prog 21 #[.pointer (some ⟨p, 0, none⟩)] w fun e w' => e = .returned (.tuple #[]) ∧
      w' = (((((w.setCell ⟨G, 14, none⟩ (.int .i64 (x - 1))).setCell ⟨p, 2, none⟩ (.pointer none)).setCell ⟨p, 3, none⟩ .nilFunc).setCell ⟨p, 37, none⟩ (.pointer none)).setCell ⟨p, 38, none⟩ (.slice none 0 0))) :=
    end_core G p x w _ _ _ hx0 hx (by omega) c (hf.frozen 14) c2 (hg.cell (by omega)) (hg.cell (by omega)) (hg.cell (by omega)) (hg.frozen 2) (hg.frozen 3) (hg.frozen 37) (hg.frozen 38)
  have HE' : Hid (St w0 G n k r sent recv (x - 1) (fun j => if j = i then true else D j) (((((w.setCell ⟨G, 14, none⟩ (.int .i64 (x - 1))).setCell ⟨p, 2, none⟩ (.pointer none)).setCell ⟨p, 3, none⟩ .nilFunc).setCell ⟨p, 37, none⟩ (.pointer none)).setCell ⟨p, 38, none⟩ (.slice none 0 0))) := HE
  clear h hf hg HE f14 g0 g1 g2 hp hD
  go_enter Try.func16, Try.ntmps16
  go_wp2_with fail
  refine E.out.mono ?_
  rintro e w' ⟨rfl, rfl⟩
  clear c c2
  go_wp2_with fail
  go_end0
  refine ⟨rfl, HE'.out, ?_⟩
  intro b hbG hbp
  rw [blk_setCell_other _ _ _ _ (by exact hbp), blk_setCell_other _ _ _ _ (by exact hbp), blk_setCell_other _ _ _ _ (by exact hbp), blk_setCell_other _ _ _ _ (by exact hbp), blk_setCell_other _ _ _ _ (by exact hbG)]

/-- 'Cancel': a session that has ended. -/
theorem cancel_dead (p : Nat) (w : World) (c2 : w.cell? ⟨p, 2, none⟩ = some (.pointer none)) :
    Calls Try.prog 16 #[.pointer (some ⟨p, 0, none⟩)] w fun e w' => e = .returned (.tuple #[]) ∧ w' = w := by
  go_enter Try.func16, Try.ntmps16
  go_wp2_with fail
  go_end0
  exact ⟨rfl, rfl⟩

end Go.Proofs.Qxb6618787a.Pull
