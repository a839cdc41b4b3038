/-
  THE WALK of zzNumber.
-/
import Derived.Test.Qxb6618787aRows
import Derived.Test.Qxb6618787aTreeLaw
import Derived.WalkKit
import Derived.ProofKit
import Derived.OpenShut
import Derived.WalkSpells
import Derived.WalkLawsBesides
import Derived.Deep.OwnRows
import Derived.RegionTactic
import Derived.BigRegion
import Derived.Below
namespace Go.Proofs.Qxb6618787a
open Go.RowKit Go.Deep
open Go.Proofs.Qxb6618787a.Tree

theorem Try.info3 : (Try.prog.info? 3).map (fun i => (i.zero, i.size, i.bytes)) = some (some (.int .i64 0), 1, 8) := by kernel_rfl
theorem Try.info21 : (Try.prog.info? 21).map (fun i => (i.zero, i.size, i.bytes)) = some (some (.int .i32 0), 1, 4) := by kernel_rfl

/-- 'make([]int, 0, n)'. -/
theorem make0 (n : Nat) (hn : n ≤ 65536) (w : World) :
    (Instr.makeSlice 22 (.int .i64 0) (.int .i64 (n : Int))).run Try.prog w = .ok (.slice (some ⟨w.heap.size, 0, none⟩) 0 n) (w.alloc (.cells (madeCells #[.int .i64 0] n) 3)) := by
  obtain ⟨i, hi, hz0, hz1, hz2⟩ := info_parts Try.info3
  have hr := run_make (P := Try.prog) w 22 3 i (.int .i64 0) Try.underlying22 hi hz0 .i64 .i64 0 n (by omega) (by omega) (by rw [hz2]; omega) (by omega)
  simp only [Int.toNat_natCast, hz1, Nat.mul_one] at hr
  exact hr

/-- The four arrays that are made first, from block B on. -/
structure Rows4 (w0 : World) (B n : Nat) (pre post head next : Nat → Int) (wr : World) : Prop where
  below : Below B w0 wr
  big : B + 4 ≤ wr.heap.size
  rpre : wr.rowIs B 21 n (fun j => .int .i32 (pre j))
  rpost : wr.rowIs (B + 1) 21 n (fun j => .int .i32 (post j))
  rhead : wr.rowIs (B + 1 + 1) 3 n (fun j => .int .i64 (head j))
  rnext : wr.rowIs (B + 1 + 1 + 1) 3 n (fun j => .int .i64 (next j))

theorem ite_int {k : IntKind} (p : Prop) [Decidable p] (a b : Int) : (if p then Value.int k a else Value.int k b) = Value.int k (if p then a else b) := by split <;> rfl

namespace Rows4
variable {w0 wr : World} {B n : Nat} {pre post head next : Nat → Int}

theorem congr {pre' post' head' next' : Nat → Int} (h : Rows4 w0 B n pre post head next wr) (h1 : ∀ j, j < n → pre j = pre' j) (h2 : ∀ j, j < n → post j = post' j) (h3 : ∀ j, j < n → head j = head' j) (h4 : ∀ j, j < n → next j = next' j) :
    Rows4 w0 B n pre' post' head' next' wr :=
  ⟨h.below, h.big, h.rpre.congr (fun j hj => by rw [h1 j hj]), h.rpost.congr (fun j hj => by rw [h2 j hj]), h.rhead.congr (fun j hj => by rw [h3 j hj]), h.rnext.congr (fun j hj => by rw [h4 j hj])⟩

theorem setPre (h : Rows4 w0 B n pre post head next wr) (i : Nat) (v : Int) : Rows4 w0 B n (fun j => if j = i then v else pre j) post head next (wr.setCell ⟨B, i, none⟩ (.int .i32 v)) :=
  ⟨h.below.setCell (by show B ≤ B; omega) _, by rw [nblk_setCell]; exact h.big, (h.rpre.set i (.int .i32 v)).congr (fun j _ => ite_int _ _ _), h.rpost.setOther (by show B + 1 ≠ B; omega) _, h.rhead.setOther (by show B + 1 + 1 ≠ B; omega) _, h.rnext.setOther (by show B + 1 + 1 + 1 ≠ B; omega) _⟩
theorem setPost (h : Rows4 w0 B n pre post head next wr) (i : Nat) (v : Int) : Rows4 w0 B n pre (fun j => if j = i then v else post j) head next (wr.setCell ⟨B + 1, i, none⟩ (.int .i32 v)) :=
  ⟨h.below.setCell (by show B ≤ B + 1; omega) _, by rw [nblk_setCell]; exact h.big, h.rpre.setOther (by show B ≠ B + 1; omega) _, (h.rpost.set i (.int .i32 v)).congr (fun j _ => ite_int _ _ _), h.rhead.setOther (by show B + 1 + 1 ≠ B + 1; omega) _, h.rnext.setOther (by show B + 1 + 1 + 1 ≠ B + 1; omega) _⟩
theorem setHead (h : Rows4 w0 B n pre post head next wr) (i : Nat) (v : Int) : Rows4 w0 B n pre post (fun j => if j = i then v else head j) next (wr.setCell ⟨B + 1 + 1, i, none⟩ (.int .i64 v)) :=
  ⟨h.below.setCell (by show B ≤ B + 1 + 1; omega) _, by rw [nblk_setCell]; exact h.big, h.rpre.setOther (by show B ≠ B + 1 + 1; omega) _, h.rpost.setOther (by show B + 1 ≠ B + 1 + 1; omega) _, (h.rhead.set i (.int .i64 v)).congr (fun j _ => ite_int _ _ _), h.rnext.setOther (by show B + 1 + 1 + 1 ≠ B + 1 + 1; omega) _⟩
theorem setNext (h : Rows4 w0 B n pre post head next wr) (i : Nat) (v : Int) : Rows4 w0 B n pre post head (fun j => if j = i then v else next j) (wr.setCell ⟨B + 1 + 1 + 1, i, none⟩ (.int .i64 v)) :=
  ⟨h.below.setCell (by show B ≤ B + 1 + 1 + 1; omega) _, by rw [nblk_setCell]; exact h.big, h.rpre.setOther (by show B ≠ B + 1 + 1 + 1; omega) _, h.rpost.setOther (by show B + 1 ≠ B + 1 + 1 + 1; omega) _, h.rhead.setOther (by show B + 1 + 1 ≠ B + 1 + 1 + 1; omega) _, (h.rnext.set i (.int .i64 v)).congr (fun j _ => ite_int _ _ _)⟩
theorem alloc (h : Rows4 w0 B n pre post head next wr) (o : Obj) : Rows4 w0 B n pre post head next (wr.alloc o) :=
  ⟨h.below.alloc (by have := h.big; omega) o, by rw [nblk_alloc]; have := h.big; omega, h.rpre.alloc o, h.rpost.alloc o, h.rhead.alloc o, h.rnext.alloc o⟩
end Rows4

/-- The row G holds the list o in its first cells. -/
def Holds (w : World) (G n : Nat) (o : List Nat) : Prop := ∃ f, w.rowIs G 3 n f ∧ ∀ j x, o[j]? = some x → f j = .int .i64 ((x : Nat) : Int)

namespace Holds
variable {w : World} {G n : Nat} {o : List Nat}
theorem cell (h : Holds w G n o) {j x : Nat} (hx : o[j]? = some x) (hj : j < n) : w.cell? ⟨G, j, none⟩ = some (.int .i64 ((x : Nat) : Int)) := by
  obtain ⟨f, hr, hf⟩ := h
  rw [hr.cell hj, hf j x hx]
theorem some (h : Holds w G n o) {j : Nat} (hj : j < n) : ∃ v, w.cell? ⟨G, j, none⟩ = Option.some v := by
  obtain ⟨f, hr, _⟩ := h
  exact ⟨_, hr.cell hj⟩
theorem frozen (h : Holds w G n o) (j : Nat) : w.frozen? ⟨G, j, none⟩ = false := by
  obtain ⟨f, hr, _⟩ := h
  exact hr.frozen j
theorem push (h : Holds w G n o) (v : Nat) : Holds (w.setCell ⟨G, o.length, none⟩ (.int .i64 (v : Int))) G n (o ++ [v]) := by
  obtain ⟨f, hr, hf⟩ := h
  refine ⟨_, hr.set o.length (.int .i64 (v : Int)), ?_⟩
  intro j x hx
  by_cases hj : j < o.length
  · rw [List.getElem?_append_left hj] at hx
    show (if j = o.length then _ else f j) = _
    rw [if_neg (by omega)]
    exact hf j x hx
  · rw [List.getElem?_append_right (by omega)] at hx
    have : j = o.length := by
      by_cases h0 : j - o.length = 0
      · omega
      · rw [List.getElem?_cons, if_neg h0] at hx
        simp at hx
    subst this
    simp at hx
    subst hx
    show (if _ = _ then _ else _) = _
    rw [if_pos rfl]
theorem pop {v : Nat} (h : Holds w G n (o ++ [v])) : Holds w G n o := by
  obtain ⟨f, hr, hf⟩ := h
  refine ⟨f, hr, fun j x hx => hf j x ?_⟩
  have hj : j < o.length := (List.getElem?_eq_some_iff.1 hx).1
  rw [List.getElem?_append_left hj]
  exact hx
theorem setOther (h : Holds w G n o) {a : Addr} (ha : G ≠ a.block) (v : Value) : Holds (w.setCell a v) G n o := by
  obtain ⟨f, hr, hf⟩ := h
  exact ⟨f, hr.setOther ha v, hf⟩
theorem alloc (h : Holds w G n o) (x : Obj) : Holds (w.alloc x) G n o := by
  obtain ⟨f, hr, hf⟩ := h
  exact ⟨f, hr.alloc x, hf⟩
theorem drew (h : Holds w G n o) : Holds w.drew G n o := h
end Holds

def lenOf : Value → Nat | .slice _ l _ => l | _ => 0

/-- The six arrays while the tree is walked down. -/
structure Rows6 (w0 : World) (B n G : Nat) (pre post head next : Nat → Int) (o s : List Nat) (wr : World) : Prop where
  r4 : Rows4 w0 B n pre post head next wr
  far : B + 4 ≤ G
  big : G + 2 ≤ wr.heap.size
  ord : Holds wr G n o
  stk : Holds wr (G + 1) n s

namespace Rows6
variable {w0 wr : World} {B n G : Nat} {pre post head next : Nat → Int} {o s : List Nat}
theorem setPre (h : Rows6 w0 B n G pre post head next o s wr) (i : Nat) (v : Int) : Rows6 w0 B n G (fun j => if j = i then v else pre j) post head next o s (wr.setCell ⟨B, i, none⟩ (.int .i32 v)) :=
  have hf := h.far
  ⟨h.r4.setPre i v, h.far, by rw [nblk_setCell]; exact h.big, h.ord.setOther (by show G ≠ B; omega) _, h.stk.setOther (by show G + 1 ≠ B; omega) _⟩
theorem setPost (h : Rows6 w0 B n G pre post head next o s wr) (i : Nat) (v : Int) : Rows6 w0 B n G pre (fun j => if j = i then v else post j) head next o s (wr.setCell ⟨B + 1, i, none⟩ (.int .i32 v)) :=
  have hf := h.far
  ⟨h.r4.setPost i v, h.far, by rw [nblk_setCell]; exact h.big, h.ord.setOther (by show G ≠ B + 1; omega) _, h.stk.setOther (by show G + 1 ≠ B + 1; omega) _⟩
theorem congrPre {pre' : Nat → Int} (h : Rows6 w0 B n G pre post head next o s wr) (e : ∀ j, j < n → pre j = pre' j) : Rows6 w0 B n G pre' post head next o s wr :=
  ⟨h.r4.congr e (fun _ _ => rfl) (fun _ _ => rfl) (fun _ _ => rfl), h.far, h.big, h.ord, h.stk⟩
theorem alloc (h : Rows6 w0 B n G pre post head next o s wr) (x : Obj) : Rows6 w0 B n G pre post head next o s (wr.alloc x) :=
  ⟨h.r4.alloc x, h.far, by rw [nblk_alloc]; have := h.big; omega, h.ord.alloc x, h.stk.alloc x⟩
theorem pushOrd (h : Rows6 w0 B n G pre post head next o s wr) (v : Nat) : Rows6 w0 B n G pre post head next (o ++ [v]) s (wr.setCell ⟨G, o.length, none⟩ (.int .i64 (v : Int))) :=
  have hf := h.far
  ⟨⟨h.r4.below.setCell (by show B ≤ G; omega) _, by rw [nblk_setCell]; exact h.r4.big, h.r4.rpre.setOther (by show B ≠ G; omega) _, h.r4.rpost.setOther (by show B + 1 ≠ G; omega) _,
    h.r4.rhead.setOther (by show B + 1 + 1 ≠ G; omega) _, h.r4.rnext.setOther (by show B + 1 + 1 + 1 ≠ G; omega) _⟩, h.far, by rw [nblk_setCell]; exact h.big, h.ord.push v, h.stk.setOther (by show G + 1 ≠ G; omega) _⟩
theorem pushStk (h : Rows6 w0 B n G pre post head next o s wr) (v : Nat) : Rows6 w0 B n G pre post head next o (s ++ [v]) (wr.setCell ⟨G + 1, s.length, none⟩ (.int .i64 (v : Int))) :=
  have hf := h.far
  ⟨⟨h.r4.below.setCell (by show B ≤ G + 1; omega) _, by rw [nblk_setCell]; exact h.r4.big, h.r4.rpre.setOther (by show B ≠ G + 1; omega) _, h.r4.rpost.setOther (by show B + 1 ≠ G + 1; omega) _,
    h.r4.rhead.setOther (by show B + 1 + 1 ≠ G + 1; omega) _, h.r4.rnext.setOther (by show B + 1 + 1 + 1 ≠ G + 1; omega) _⟩, h.far, by rw [nblk_setCell]; exact h.big, h.ord.setOther (by show G ≠ G + 1; omega) _, h.stk.push v⟩
theorem pop {v : Nat} (h : Rows6 w0 B n G pre post head next o (s ++ [v]) wr) : Rows6 w0 B n G pre post head next o s wr := ⟨h.r4, h.far, h.big, h.ord, h.stk.pop⟩
end Rows6

/-- The seven arrays: the sizes besides. -/
structure Rows7 (w0 : World) (B n G S : Nat) (pre post : Nat → Int) (size : Nat → Int) (o : List Nat) (wr : World) : Prop where
  below : Below B w0 wr
  far : B + 4 ≤ G
  away : G + 2 ≤ S
  rpre : wr.rowIs B 21 n (fun j => .int .i32 (pre j))
  rpost : wr.rowIs (B + 1) 21 n (fun j => .int .i32 (post j))
  ord : Holds wr G n o
  rsize : wr.rowIs S 21 n (fun j => .int .i32 (size j))

namespace Rows7
variable {w0 wr : World} {B n G S : Nat} {pre post size : Nat → Int} {o : List Nat}
theorem setSize (h : Rows7 w0 B n G S pre post size o wr) (i : Nat) (v : Int) : Rows7 w0 B n G S pre post (fun j => if j = i then v else size j) o (wr.setCell ⟨S, i, none⟩ (.int .i32 v)) :=
  have hf := h.far
  have ha := h.away
  ⟨h.below.setCell (by show B ≤ S; omega) _, h.far, h.away, h.rpre.setOther (by show B ≠ S; omega) _, h.rpost.setOther (by show B + 1 ≠ S; omega) _, h.ord.setOther (by show G ≠ S; omega) _, (h.rsize.set i (.int .i32 v)).congr (fun j _ => ite_int _ _ _)⟩
theorem setPost (h : Rows7 w0 B n G S pre post size o wr) (i : Nat) (v : Int) : Rows7 w0 B n G S pre (fun j => if j = i then v else post j) size o (wr.setCell ⟨B + 1, i, none⟩ (.int .i32 v)) :=
  have hf := h.far
  have ha := h.away
  ⟨h.below.setCell (by show B ≤ B + 1; omega) _, h.far, h.away, h.rpre.setOther (by show B ≠ B + 1; omega) _, (h.rpost.set i (.int .i32 v)).congr (fun j _ => ite_int _ _ _), h.ord.setOther (by show G ≠ B + 1; omega) _, h.rsize.setOther (by show S ≠ B + 1; omega) _⟩
theorem drew (h : Rows7 w0 B n G S pre post size o wr) : Rows7 w0 B n G S pre post size o wr.drew := ⟨h.below.drew, h.far, h.away, h.rpre.drew, h.rpost.drew, h.ord.drew, h.rsize.drew⟩
theorem congr {post' size' : Nat → Int} (h : Rows7 w0 B n G S pre post size o wr) (e1 : ∀ j, j < n → post j = post' j) (e2 : ∀ j, j < n → size j = size' j) : Rows7 w0 B n G S pre post' size' o wr :=
  ⟨h.below, h.far, h.away, h.rpre, h.rpost.congr (fun j hj => by rw [e1 j hj]), h.ord, h.rsize.congr (fun j hj => by rw [e2 j hj])⟩
end Rows7

theorem rows7_start {w0 wr : World} {B n G : Nat} {pre post head next : Nat → Int} {o s : List Nat} (h : Rows6 w0 B n G pre post head next o s wr) :
    Rows7 w0 B n G wr.heap.size pre post (fun _ => 0) o (wr.alloc (.cells (madeCells #[.int .i32 0] n) 21)) :=
  have hb := h.big
  have hf := h.far
  ⟨h.r4.below.alloc (by omega) _, h.far, h.big, h.r4.rpre.alloc _, h.r4.rpost.alloc _, h.ord.alloc _, World.rowIs_made wr (.int .i32 0) n 21⟩

theorem rows4_made (w : World) (n : Nat) :
    Rows4 w w.heap.size n (fun _ => 0) (fun _ => 0) (fun _ => 0) (fun _ => 0)
      ((((w.alloc (.cells (madeCells #[.int .i32 0] n) 21)).alloc (.cells (madeCells #[.int .i32 0] n) 21)).alloc (.cells (madeCells #[.int .i64 0] n) 3)).alloc (.cells (madeCells #[.int .i64 0] n) 3)) := by
  have s1 := nblk_alloc w (.cells (madeCells #[.int .i32 0] n) 21)
  generalize hw1 : w.alloc (.cells (madeCells #[.int .i32 0] n) 21) = w1 at *
  have s2 := nblk_alloc w1 (.cells (madeCells #[.int .i32 0] n) 21)
  generalize hw2 : w1.alloc (.cells (madeCells #[.int .i32 0] n) 21) = w2 at *
  have s3 := nblk_alloc w2 (.cells (madeCells #[.int .i64 0] n) 3)
  generalize hw3 : w2.alloc (.cells (madeCells #[.int .i64 0] n) 3) = w3 at *
  have s4 := nblk_alloc w3 (.cells (madeCells #[.int .i64 0] n) 3)
  have r1 := World.rowIs_made w (.int .i32 0) n 21
  have r2 := World.rowIs_made w1 (.int .i32 0) n 21
  have r3 := World.rowIs_made w2 (.int .i64 0) n 3
  have r4 := World.rowIs_made w3 (.int .i64 0) n 3
  have b1 : Below w.heap.size w w1 := hw1 ▸ (Below.refl _ _).alloc (Nat.le_refl _) _
  have b2 : Below w.heap.size w w2 := hw2 ▸ b1.alloc (by omega) _
  have b3 : Below w.heap.size w w3 := hw3 ▸ b2.alloc (by omega) _
  rw [hw1] at r1
  rw [hw2, s1] at r2
  rw [hw3, s2, s1] at r3
  rw [s3, s2, s1] at r4
  refine ⟨b3.alloc (by omega) _, by omega, ?_, ?_, ?_, r4⟩
  · exact ((hw3 ▸ (hw2 ▸ r1.alloc _).alloc _ : w3.rowIs _ _ _ _)).alloc _
  · exact ((hw3 ▸ r2.alloc _ : w3.rowIs _ _ _ _)).alloc _
  · exact r3.alloc _

theorem rows4_init {w0 wr : World} {B n k : Nat} (h : Rows4 w0 B n (fun j => if j < k then -1 else 0) (fun j => if j < k then -1 else 0) (fun j => if j < k then -1 else 0) (fun j => if j < k then -1 else 0) wr) :
    Rows4 w0 B n (fun j => if j < k + 1 then -1 else 0) (fun j => if j < k + 1 then -1 else 0) (fun j => if j < k + 1 then -1 else 0) (fun j => if j < k + 1 then -1 else 0)
      ((((wr.setCell ⟨B, k, none⟩ (.int .i32 (-1))).setCell ⟨B + 1, k, none⟩ (.int .i32 (-1))).setCell ⟨B + 1 + 1, k, none⟩ (.int .i64 (-1))).setCell ⟨B + 1 + 1 + 1, k, none⟩ (.int .i64 (-1))) := by
  have e : ∀ j, j < n → (if j = k then (-1 : Int) else if j < k then -1 else 0) = if j < k + 1 then -1 else 0 := by
    intro j _
    by_cases h1 : j = k
    · rw [if_pos h1, if_pos (by omega)]
    · rw [if_neg h1]
      by_cases h2 : j < k
      · rw [if_pos h2, if_pos (by omega)]
      · rw [if_neg h2, if_neg (by omega)]
  exact ((((h.setPre k (-1)).setPost k (-1)).setHead k (-1)).setNext k (-1)).congr e e e e

theorem rows6_start {w wA : World} {B n : Nat} {par : Nat → Int} (h : Rows4 w B n (fun _ => -1) (fun _ => -1) (headV n par 1) (nextV n par 1) wA) :
    Rows6 w B n wA.heap.size (preO []) (fun _ => -1) (headV n par 1) (nextV n par 1) [] [0]
      (((wA.alloc (.cells (madeCells #[.int .i64 0] n) 3)).alloc (.cells ((madeCells #[.int .i64 0] n).setIfInBounds 0 (.int .i64 0)) 3)).alloc (.cells #[.int .i64 0] 3)) := by
  have s1 := nblk_alloc wA (.cells (madeCells #[.int .i64 0] n) 3)
  have r1 := World.rowIs_made wA (.int .i64 0) n 3
  have h4 : Rows4 w B n (preO []) (fun _ => -1) (headV n par 1) (nextV n par 1) wA := h.congr (fun j _ => (preO_nil j).symm) (fun _ _ => rfl) (fun _ _ => rfl) (fun _ _ => rfl)
  have h5 := ((h4.alloc (.cells (madeCells #[.int .i64 0] n) 3)).alloc (.cells ((madeCells #[.int .i64 0] n).setIfInBounds 0 (.int .i64 0)) 3)).alloc (.cells #[.int .i64 0] 3)
  have hb := h.big
  generalize hw1 : wA.alloc (.cells (madeCells #[.int .i64 0] n) 3) = w1 at *
  have s2 := nblk_alloc w1 (.cells ((madeCells #[.int .i64 0] n).setIfInBounds 0 (.int .i64 0)) 3)
  have r2 : (w1.alloc (.cells ((madeCells #[.int .i64 0] n).setIfInBounds 0 (.int .i64 0)) 3)).rowIs (wA.heap.size + 1) 3 n (fun _ => .int .i64 0) := by
    refine ⟨_, by rw [← s1]; exact blk_alloc_new _ _, by simp [size_madeCells], ?_⟩
    intro i hi
    rw [Array.getElem?_setIfInBounds, size_madeCells]
    by_cases h0 : 0 = i
    · subst h0
      simp [hi]
    · rw [if_neg h0, Array.getElem?_eq_getElem (by rw [size_madeCells]; exact hi)]
      simp [madeCells, Nat.mod_one]
  generalize hw2 : w1.alloc (.cells ((madeCells #[.int .i64 0] n).setIfInBounds 0 (.int .i64 0)) 3) = w2 at *
  have s3 := nblk_alloc w2 (.cells #[.int .i64 0] 3)
  refine ⟨h5, hb, by omega, ?_, ?_⟩
  · refine ⟨_, ((hw2 ▸ r1.alloc _ : w2.rowIs _ _ _ _)).alloc _, ?_⟩
    intro j x hx
    simp at hx
  · refine ⟨_, r2.alloc _, ?_⟩
    intro j x hx
    cases j with
    | zero => simp at hx; subst hx; rfl
    | succ j => simp at hx

set_option maxRecDepth 1000000 in
set_option maxHeartbeats 800000 in
theorem number_any (b off n cap : Nat) (par : Nat → Int) (w : World) (hn : 1 ≤ n) (hn2 : n ≤ 65536) (hb : b < w.heap.size) (hc : ∀ i, i < n → w.cell? ⟨b, off + i, none⟩ = some (.int .i64 (par i))) :
    Calls Try.prog 7 #[.slice (some ⟨b, off, none⟩) n cap] w fun e w' =>
      e = .returned (.tuple #[.slice (some ⟨w.heap.size, 0, none⟩) n n, .slice (some ⟨w.heap.size + 1, 0, none⟩) n n]) ∧ Below w.heap.size w w' ∧
      w'.rowIs w.heap.size 21 n (fun j => .int .i32 (preV n par j)) ∧ w'.rowIs (w.heap.size + 1) 21 n (fun j => .int .i32 (postV n par j)) := by
  have hm3 := run_make_row' (P := Try.prog) 22 3 (.int .i64 0) 8 Try.underlying22 Try.info3 rfl .i64 .i64 n (by omega) (by omega)
  have hm21 := run_make_row' (P := Try.prog) 24 21 (.int .i32 0) 4 Try.underlying24 Try.info21 rfl .i64 .i64 n (by omega) (by omega)
  go_enter Try.func7, Try.ntmps7
  go_wp2
  go_loopw [9] (fun v wr => ∃ k : Nat, k ≤ n ∧ v = .int .i64 k ∧ Rows4 w w.heap.size n (fun j => if j < k then -1 else 0) (fun j => if j < k then -1 else 0) (fun j => if j < k then -1 else 0) (fun j => if j < k then -1 else 0) wr)
    (fun v _ => n - (intOf v).toNat)
  case atStart => exact ⟨0, Nat.zero_le _, rfl, (rows4_made w n).congr (fun j _ => by simp) (fun j _ => by simp) (fun j _ => by simp) (fun j _ => by simp)⟩
  case round =>
    obtain ⟨k, hk, rfl, hR⟩ := hrel
    by_cases hlt : k < n
    · have f1 := hR.rpre.frozen k
      have f2 := hR.rpost.frozen k
      have f3 := hR.rhead.frozen k
      have f4 := hR.rnext.frozen k
      obtain ⟨v1, c1⟩ : ∃ v, wr.cell? ⟨w.heap.size, k, none⟩ = some v := ⟨_, hR.rpre.cell hlt⟩
      obtain ⟨v2, c2⟩ : ∃ v, wr.cell? ⟨w.heap.size + 1, k, none⟩ = some v := ⟨_, hR.rpost.cell hlt⟩
      obtain ⟨v3, c3⟩ : ∃ v, wr.cell? ⟨w.heap.size + 1 + 1, k, none⟩ = some v := ⟨_, hR.rhead.cell hlt⟩
      obtain ⟨v4, c4⟩ : ∃ v, wr.cell? ⟨w.heap.size + 1 + 1 + 1, k, none⟩ = some v := ⟨_, hR.rnext.cell hlt⟩
      have HR : Hid (Rows4 w w.heap.size n (fun j => if j < k + 1 then -1 else 0) (fun j => if j < k + 1 then -1 else 0) (fun j => if j < k + 1 then -1 else 0) (fun j => if j < k + 1 then -1 else 0)
        ((((wr.setCell ⟨w.heap.size, k, none⟩ (.int .i32 (-1))).setCell ⟨w.heap.size + 1, k, none⟩ (.int .i32 (-1))).setCell ⟨w.heap.size + 1 + 1, k, none⟩ (.int .i64 (-1))).setCell ⟨w.heap.size + 1 + 1 + 1, k, none⟩ (.int .i64 (-1)))) := rows4_init hR
      clear hR
      go_wp2
      go_roundw
      case rel => exact ⟨k + 1, by omega, by go_num, HR.out⟩
      case measure => simp [intOf]; omega
    · have hkn : k = n := by omega
      subst hkn
      have hR2 : Rows4 w w.heap.size k (fun _ => -1) (fun _ => -1) (headV k par k) (nextV k par k) wr :=
        hR.congr (fun j hj => by rw [if_pos hj]) (fun j hj => by rw [if_pos hj]) (fun j hj => by rw [if_pos hj, headV_end (Nat.le_refl _)]) (fun j hj => by rw [if_pos hj, nextV_end (Nat.le_refl _) hj])
      clear hR hk
      go_wp2
      go_loopw [10, 11] (fun u _ wr => ∃ v : Nat, v < k ∧ u = .int .i64 (v : Int) ∧ Rows4 w w.heap.size k (fun _ => -1) (fun _ => -1) (headV k par (v + 1)) (nextV k par (v + 1)) wr)
        (fun u _ _ => (intOf u).toNat)
      case atStart => exact ⟨k - 1, by omega, by rw [show ((k - 1 : Nat) : Int) = (k : Int) - 1 by omega], by rw [show k - 1 + 1 = k by omega]; exact hR2⟩
      case round =>
        clear hR2
        obtain ⟨v, hv, rfl, hR⟩ := hrel
        by_cases hlt : 1 ≤ v
        · have hpar : wr.cell? ⟨b, off + v, none⟩ = some (.int .i64 (par v)) := (hR.below.cell (by exact hb)).trans (hc v hv)
          by_cases hval : 0 ≤ par v ∧ par v < (k : Int)
          · obtain ⟨p, hp⟩ : ∃ p : Nat, par v = (p : Int) := ⟨(par v).toNat, by omega⟩
            have hpk : p < k := by omega
            rw [hp] at hpar
            have f3 := hR.rhead.frozen p
            have f4 := hR.rnext.frozen v
            obtain ⟨q, c3, HQ⟩ : ∃ q, wr.cell? ⟨w.heap.size + 1 + 1, p, none⟩ = some (.int .i64 q) ∧ Hid (headV k par (v + 1) p = q) := ⟨_, hR.rhead.cell hpk, rfl⟩
            obtain ⟨v4, c4⟩ : ∃ x, wr.cell? ⟨w.heap.size + 1 + 1 + 1, v, none⟩ = some x := ⟨_, hR.rnext.cell hv⟩
            have HR : Hid (Rows4 w w.heap.size k (fun _ => -1) (fun _ => -1) (headV k par v) (nextV k par v) ((wr.setCell ⟨w.heap.size + 1 + 1 + 1, v, none⟩ (.int .i64 q)).setCell ⟨w.heap.size + 1 + 1, p, none⟩ (.int .i64 (v : Int)))) :=
              ((hR.setNext v q).setHead p v).congr (fun _ _ => rfl) (fun _ _ => rfl) (fun j _ => (headV_hang hv hp j).symm) (fun j _ => by rw [nextV_hang hp hpk j, HQ.out])
            clear hR hval hp
            go_wp2
            go_roundw
            case rel => exact ⟨v - 1, by omega, by rw [show ((v - 1 : Nat) : Int) = (v : Int) - 1 by omega], by rw [show v - 1 + 1 = v by omega]; exact HR.out⟩
            case measure => simp [intOf]; omega
          · have HR : Hid (Rows4 w w.heap.size k (fun _ => -1) (fun _ => -1) (headV k par v) (nextV k par v) wr) :=
              hR.congr (fun _ _ => rfl) (fun _ _ => rfl) (fun j hj => (headV_skip hv (by omega) j hj).symm) (fun j _ => (nextV_skip (by omega) j).symm)
            clear hR
            by_cases hneg : 0 ≤ par v
            · have hge : (k : Int) ≤ par v := by omega
              clear hval
              go_wp2
              go_roundw
              case rel => exact ⟨v - 1, by omega, by rw [show ((v - 1 : Nat) : Int) = (v : Int) - 1 by omega], by rw [show v - 1 + 1 = v by omega]; exact HR.out⟩
              case measure => simp [intOf]; omega
            · clear hval
              go_wp2
              go_roundw
              case rel => exact ⟨v - 1, by omega, by rw [show ((v - 1 : Nat) : Int) = (v : Int) - 1 by omega], by rw [show v - 1 + 1 = v by omega]; exact HR.out⟩
              case measure => simp [intOf]; omega
        · have hv0 : v = 0 := by omega
          subst hv0
          have hk0 : ((k : Int) == 0) = false := by simp; omega
          have hR3 : Rows4 w w.heap.size k (fun _ => -1) (fun _ => -1) (headV k par 1) (nextV k par 1) wr := hR
          clear hR
          have hm0 := make0 k (by omega)
          have hmc : (madeCells #[Value.int .i64 0] k)[0]? = some (.int .i64 0) := by
            rw [Array.getElem?_eq_getElem (by rw [size_madeCells]; omega)]
            simp [madeCells, Nat.mod_one]
          obtain ⟨wA, hwA⟩ : ∃ x : World, x = wr := ⟨wr, rfl⟩
          subst hwA
          go_wp2
          have hS := rows6_start hR3
          clear hR3 hmc hm0
          generalize wA.heap.size = G at *
          go_loopw [12, 13] (fun u12 u13 wr => ∃ (o s : List Nat) (l m : Nat), u12 = .slice (some ⟨G, 0, none⟩) l k ∧ u13 = .slice (some ⟨G + 1, 0, none⟩) m k ∧ Hid (o.length = l ∧ s.length = m) ∧ Going k par o s ∧
              Rows6 w w.heap.size k G (preO o) (fun _ => -1) (headV k par 1) (nextV k par 1) o s wr)
            (fun u12 _ _ => k - lenOf u12)
          case atStart => exact ⟨[], [0], 0, 1, rfl, rfl, ⟨rfl, rfl⟩, going_start hn, hS⟩
          case round =>
            clear hS
            obtain ⟨o, s, l, m, rfl, rfl, HL, hgo, hR⟩ := hrel
            rcases List.eq_nil_or_concat s with hs | ⟨s', v, hs⟩
            · subst hs
              obtain ⟨hl1, hm1⟩ := HL.out
              have hm1 : 0 = m := hm1
              subst hm1
              have ho := going_end hgo
              subst ho
              have hS7 := rows7_start hR
              have hlk := O_length (par := par) hn
              rw [hl1] at hlk
              have HLO : Hid ((O k par).length = l) := hl1
              obtain ⟨wB, hwB⟩ : ∃ x : World, x = wr := ⟨wr, rfl⟩
              subst hwB
              have hl65 : l ≤ 65536 := by omega
              clear hR HL hl1 hgo
              go_wp2
              generalize wB.heap.size = S at *
              go_loopw [17, 18] (fun u17 _ wr => ∃ (j : Nat) (c : Int), u17 = .int .i64 c ∧ Hid (c = (j : Int) - 1) ∧ j ≤ l ∧
                  Rows7 w w.heap.size k G S (preO (O k par)) (fun _ => -1) (fun y => (sizeV k par j y : Int)) (O k par) wr)
                (fun u17 _ _ => (intOf u17 + 1).toNat)
              case atStart => exact ⟨l, (l : Int) - 1, rfl, rfl, Nat.le_refl _, hS7.congr (fun _ _ => rfl) (fun y _ => by rw [sizeV_end (Nat.le_of_eq HLO.out)]; rfl)⟩
              case round =>
                clear hS7
                obtain ⟨j, c, rfl, HJ, hj, hR⟩ := hrel
                cases j with
                | zero =>
                  have hc0 : c = -1 := by have := HJ.out; omega
                  subst hc0
                  clear HJ
                  have hS8 : Rows7 w w.heap.size k G S (preV k par) (postO k par 0) (fun y => (sizeV k par 0 y : Int)) (O k par) wr := hR.congr (fun y _ => (postO_zero y).symm) (fun _ _ => rfl)
                  clear hR
                  go_wp2
                  go_loopw [19, 20] (fun u19 _ wr => ∃ j : Nat, u19 = .int .i64 (j : Int) ∧ j ≤ l ∧ Rows7 w w.heap.size k G S (preV k par) (postO k par j) (fun y => (sizeV k par 0 y : Int)) (O k par) wr)
                    (fun u19 _ _ => l - (intOf u19).toNat)
                  case atStart => exact ⟨0, rfl, Nat.zero_le _, hS8⟩
                  case round =>
                    clear hS8
                    obtain ⟨j, rfl, hj, hR⟩ := hrel
                    by_cases hlt : j < l
                    · obtain ⟨v, hv⟩ : ∃ v, (O k par)[j]? = some v := ⟨_, List.getElem?_eq_getElem (by rw [HLO.out]; omega)⟩
                      have hvO : v ∈ O k par := List.mem_of_getElem? hv
                      have hvk := O_lt (par := par) hn v hvO
                      have cO := hR.ord.cell hv (by omega)
                      have hpb := preV_bd hn hvO
                      obtain ⟨a, cA, ha0, ha, HA⟩ : ∃ a : Int, wr.cell? ⟨w.heap.size, v, none⟩ = some (.int .i32 a) ∧ 0 ≤ a ∧ a < (k : Int) ∧ Hid (preV k par v = a) := ⟨_, hR.rpre.cell hvk, hpb.1, hpb.2, rfl⟩
                      obtain ⟨e, he, cS, HE⟩ : ∃ e : Nat, e ≤ 65536 ∧ wr.cell? ⟨S, v, none⟩ = some (.int .i32 (e : Int)) ∧ Hid (sizeV k par 0 v = e) :=
                        ⟨_, Nat.le_trans (sizeV_le hn 0 hvO) hn2, hR.rsize.cell hvk, rfl⟩
                      obtain ⟨xP, cP⟩ : ∃ x, wr.cell? ⟨w.heap.size + 1, v, none⟩ = some x := ⟨_, hR.rpost.cell hvk⟩
                      have fP := hR.rpost.frozen v
                      have hfar := hR.far
                      have haway := hR.away
                      have HR : Hid (Rows7 w w.heap.size k G S (preV k par) (postO k par (j + 1)) (fun y => (sizeV k par 0 y : Int)) (O k par) (wr.setCell ⟨w.heap.size + 1, v, none⟩ (.int .i32 (a + (e : Int)))).drew) :=
                        ((hR.setPost v (a + (e : Int))).congr (fun y _ => by rw [postO_step hn hv y, HA.out, HE.out]) (fun _ _ => rfl)).drew
                      have hvk' : (v : Int) < (k : Int) := by omega
                      clear hR hv hvO hpb
                      go_wp2
                      go_region
                      all_goals
                        go_wp2
                        go_roundw
                        case rel => exact ⟨j + 1, by go_num, by omega, HR.out⟩
                        case measure => simp [intOf]; omega
                    · have hjl : j = l := by omega
                      subst hjl
                      go_wp2
                      go_ret2
                      exact ⟨rfl, hR.below, hR.rpre, hR.rpost.congr (fun y _ => by rw [postO_end (Nat.le_of_eq HLO.out)])⟩
                | succ i =>
                  have hci : c = (i : Int) := by have := HJ.out; omega
                  subst hci
                  obtain ⟨v, hv⟩ : ∃ v, (O k par)[i]? = some v := ⟨_, List.getElem?_eq_getElem (by rw [HLO.out]; omega)⟩
                  have hvO : v ∈ O k par := List.mem_of_getElem? hv
                  have hvk := O_lt (par := par) hn v hvO
                  have cO := hR.ord.cell hv (by omega)
                  have fS := hR.rsize.frozen v
                  obtain ⟨a, ha, cS, HA⟩ : ∃ a : Nat, a ≤ 65536 ∧ wr.cell? ⟨S, v, none⟩ = some (.int .i32 (a : Int)) ∧ Hid (sizeV k par (i + 1) v = a) :=
                    ⟨_, Nat.le_trans (sizeV_le hn (i + 1) hvO) hn2, hR.rsize.cell hvk, rfl⟩
                  have hfar := hR.far
                  have haway := hR.away
                  by_cases hv0 : v = 0
                  · subst hv0
                    have HR : Hid (Rows7 w w.heap.size k G S (preO (O k par)) (fun _ => -1) (fun y => (sizeV k par i y : Int)) (O k par) (wr.setCell ⟨S, 0, none⟩ (.int .i32 ((a : Int) + 1)))) :=
                      (hR.setSize 0 ((a : Int) + 1)).congr (fun _ _ => rfl) (fun y _ => by
                        rw [sizeV_root hv y, HA.out]
                        by_cases h : y = 0
                        · rw [if_pos h, if_pos h, Int.natCast_add]; rfl
                        · rw [if_neg h, if_neg h])
                    clear hR HJ hv hvO
                    go_wp2
                    go_roundw
                    case rel => exact ⟨i, (i : Int) - 1, rfl, rfl, by omega, HR.out⟩
                    case measure => simp [intOf]
                  · obtain ⟨p, hp, hpk, hpv, hpO⟩ := O_parent hn hvO hv0
                    have hpar : wr.cell? ⟨b, off + v, none⟩ = some (.int .i64 (p : Int)) := by rw [← hp]; exact (hR.below.cell (by exact hb)).trans (hc v hvk)
                    have fP := hR.rsize.frozen p
                    have hR1 := hR.setSize v ((a : Int) + 1)
                    obtain ⟨e, he, HE⟩ : ∃ e : Nat, e ≤ 65536 ∧ Hid (sizeV k par (i + 1) p = e) := ⟨_, Nat.le_trans (sizeV_le hn (i + 1) hpO) hn2, rfl⟩
                    have cP : (wr.setCell ⟨S, v, none⟩ (.int .i32 ((a : Int) + 1))).cell? ⟨S, p, none⟩ = some (.int .i32 (e : Int)) := by
                      have := hR1.rsize.cell hpk
                      rw [if_neg hpv, HE.out] at this
                      exact this
                    have HR : Hid (Rows7 w w.heap.size k G S (preO (O k par)) (fun _ => -1) (fun y => (sizeV k par i y : Int)) (O k par) ((wr.setCell ⟨S, v, none⟩ (.int .i32 ((a : Int) + 1))).setCell ⟨S, p, none⟩ (.int .i32 ((e : Int) + ((a : Int) + 1)))).drew) :=
                      ((hR1.setSize p ((e : Int) + ((a : Int) + 1))).congr (fun _ _ => rfl) (fun y _ => by
                        rw [sizeV_other hv hv0 hp hpv y, HA.out, HE.out]
                        by_cases h : y = p
                        · rw [if_pos h, if_pos h, Int.natCast_add, Int.natCast_add]; rfl
                        · rw [if_neg h, if_neg h]
                          by_cases h' : y = v
                          · rw [if_pos h', if_pos h', Int.natCast_add]; rfl
                          · rw [if_neg h', if_neg h'])).drew
                    have hv1 : ((v : Int) != 0) = true := by simp; omega
                    have hbS : b < S := by omega
                    have hpk' : (p : Int) < (k : Int) := by omega
                    have hvk' : (v : Int) < (k : Int) := by omega
                    clear hR hR1 HJ hv hvO hpO hp hv0
                    go_wp2
                    go_region
                    all_goals
                      go_wp2
                      go_roundw
                      case rel => exact ⟨i, (i : Int) - 1, rfl, rfl, by omega, HR.out⟩
                      case measure => simp [intOf]
            · rw [List.concat_eq_append] at hs
              subst hs
              obtain ⟨hstep, hvo, hvk⟩ := going_step hn hgo
              have hroom := going_room hn hgo
              have hroom2 := going_room hn hstep
              obtain ⟨hl1, hm1⟩ := HL.out
              rw [List.length_append, List.length_singleton] at hm1
              subst hl1 hm1
              rw [List.length_append, List.length_singleton] at hroom
              obtain ⟨m, hm⟩ : ∃ m, m = s'.length := ⟨_, rfl⟩
              obtain ⟨l, hl⟩ : ∃ l, l = o.length := ⟨_, rfl⟩
              have cS : wr.cell? ⟨G + 1, m, none⟩ = some (.int .i64 (v : Int)) := hR.stk.cell (by rw [hm]; simp) (by omega)
              have fP := hR.r4.rpre.frozen v
              obtain ⟨xP, cP⟩ : ∃ x, wr.cell? ⟨w.heap.size, v, none⟩ = some x := ⟨_, hR.r4.rpre.cell hvk⟩
              obtain ⟨h0, HH⟩ : ∃ q, Hid (headV k par 1 v = q) := ⟨_, rfl⟩
              have hR1 := ((hR.setPre v (l : Int)).alloc (.cells #[.int .i64 (v : Int)] 3)).pop
              have fO := hR1.ord.frozen l
              obtain ⟨xO, cO⟩ := hR1.ord.some (j := l) (by omega)
              have hR2 := (hR1.pushOrd v).congrPre (pre' := preO (o ++ [v])) (fun j _ => by rw [preO_snoc hvo, ← hl])
              rw [← hl] at hR2
              have cH : (((wr.setCell ⟨w.heap.size, v, none⟩ (.int .i32 (l : Int))).alloc (.cells #[.int .i64 (v : Int)] 3)).setCell ⟨G, l, none⟩ (.int .i64 (v : Int))).cell? ⟨w.heap.size + 1 + 1, v, none⟩ = some (.int .i64 h0) := by
                rw [← HH.out]; exact hR2.r4.rhead.cell hvk
              have hl2 : l ≤ 65536 := by omega
              have hl3 : l < k := by omega
              have hm3 : m < k := by omega
              rw [← hm, ← hl]
              have HM : Hid (m = s'.length) := hm
              have HLL : Hid (l = o.length) := hl
              have HRoom : Hid ((o ++ [v]).length + (s' ++ kids k par v).length ≤ k) := hroom2
              clear hm hl HL hroom hroom2 hgo hR hR1
              go_wp2
              clear cS fP cP fO cO cH
              go_loopw [13, 15] (fun u13 u15 wr => ∃ (dn : List Nat) (lo r : Nat) (c : Int), u13 = .slice (some ⟨G + 1, 0, none⟩) r k ∧ u15 = .int .i64 c ∧
                  Hid (r = (s' ++ dn).length ∧ kids k par v = dn ++ kidsFrom k par lo v ∧ 1 ≤ lo ∧ c = hdOr (kidsFrom k par lo v)) ∧
                  Rows6 w w.heap.size k G (preO (o ++ [v])) (fun _ => -1) (headV k par 1) (nextV k par 1) (o ++ [v]) (s' ++ dn) wr)
                (fun u13 _ _ => k - lenOf u13)
              case atStart => exact ⟨[], 1, m, h0, rfl, rfl, ⟨by rw [List.append_nil]; exact HM.out, by rw [List.nil_append]; rfl, Nat.le_refl _, HH.out.symm⟩, by rw [List.append_nil]; exact hR2⟩
              case round =>
                clear hR2
                obtain ⟨dn, lo, r, c, rfl, rfl, HI, hR⟩ := hrel
                obtain ⟨i1, i2, i3, i4⟩ := HI.out
                cases hk : kidsFrom k par lo v with
                | nil =>
                  rw [hk] at i2 i4
                  rw [List.append_nil] at i2
                  have hc0 : c = -1 := i4
                  subst hc0
                  have HE : Hid (kids k par v = dn) := i2
                  have HI1 : Hid (r = (s' ++ dn).length) := i1
                  clear HI i1 i2 i3 i4 hk
                  go_wp2
                  go_roundw
                  case rel =>
                    refine ⟨o ++ [v], s' ++ kids k par v, l + 1, r, rfl, rfl, ⟨by rw [HLL.out]; simp, by rw [HE.out]; exact HI1.out.symm⟩, hstep, ?_⟩
                    rw [HE.out]
                    exact hR
                  case measure => simp [lenOf]; omega
                | cons x rest =>
                  rw [hk] at i2 i4
                  have hcx : c = (x : Int) := i4
                  subst hcx
                  obtain ⟨n1, n2, n3, n4⟩ := nextV_first hvk i3 hk
                  have hrk : r < k := by
                    have := HRoom.out
                    rw [i2] at this
                    simp at this i1
                    omega
                  have hR1 := hR.alloc (.cells #[.int .i64 (x : Int)] 3)
                  have fS := hR1.stk.frozen r
                  obtain ⟨xS, cS⟩ := hR1.stk.some (j := r) hrk
                  have hR2 := hR1.pushStk x
                  rw [← i1] at hR2
                  obtain ⟨q, HQ⟩ : ∃ q, Hid (hdOr (kidsFrom k par (x + 1) v) = q) := ⟨_, rfl⟩
                  have cN : ((wr.alloc (.cells #[.int .i64 (x : Int)] 3)).setCell ⟨G + 1, r, none⟩ (.int .i64 (x : Int))).cell? ⟨w.heap.size + 1 + 1 + 1, x, none⟩ = some (.int .i64 q) := by
                    rw [← HQ.out, ← n1]; exact hR2.r4.rnext.cell n3
                  have HJ : Hid (r + 1 = (s' ++ (dn ++ [x])).length ∧ kids k par v = (dn ++ [x]) ++ kidsFrom k par (x + 1) v ∧ 1 ≤ x + 1 ∧ q = hdOr (kidsFrom k par (x + 1) v)) :=
                    ⟨by simp at i1 ⊢; omega, by rw [i2, n2]; simp, by omega, HQ.out.symm⟩
                  rw [List.append_assoc] at hR2
                  clear HI i1 i2 i3 i4 hk n1 n2 n4 hR hR1 HQ
                  go_wp2
                  go_roundw
                  case rel => exact ⟨dn ++ [x], x + 1, r + 1, q, rfl, rfl, HJ, hR2⟩
                  case measure => simp [lenOf]; omega

end Go.Proofs.Qxb6618787a
