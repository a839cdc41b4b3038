/-
  THE PLAIN LAWS of the dominator tree out of the numbering, and what each loop of zzNumber does to its arrays, as functions of the index. No Go in sight.
-/
import Derived.Test.Qxb6618787aTree
namespace Go.Proofs.Qxb6618787a.Tree
section
variable (n : Nat) (par : Nat → Int)

/-- pre[y], post[y] behind zzNumber. -/
def preV (y : Nat) : Int := if y ∈ O n par then ((O n par).idxOf y : Int) else -1
def postV (y : Nat) : Int := if y ∈ O n par then ((O n par).idxOf y : Int) + ((T n par y).length : Int) else -1
/-- dominates(a, b). -/
def domB (a b : Nat) : Bool := decide (preV n par a ≤ preV n par b) && decide (preV n par b < postV n par a)
/-- zzReachesRoot, by so many rounds. -/
def rr : Nat → Int → Bool
  | 0, _ => false
  | f + 1, x => if x = 0 then true else if x < 0 ∨ (n : Int) ≤ x then false else rr f (par x.toNat)
variable {n par}

theorem dom_iff (hn : 0 < n) (a b : Nat) : domB n par a b = true ↔ a ∈ O n par ∧ b ∈ T n par a := by
  unfold domB preV postV
  simp only [Bool.and_eq_true, decide_eq_true_eq]
  by_cases ha : a ∈ O n par
  · simp only [ha, if_true, true_and]
    by_cases hb : b ∈ O n par
    · simp only [hb, if_true]
      rw [← between_iff hn ha hb]
      omega
    · simp only [hb, if_false]
      constructor
      · rintro ⟨h, _⟩
        omega
      · intro h
        exact (hb (sub_O hn ha h)).elim
  · simp only [ha, if_false, false_and, iff_false]
    by_cases hb : b ∈ O n par
    · simp only [hb, if_true]
      omega
    · simp only [hb, if_false]
      omega

theorem rr_at : ∀ {f : Nat} {x : Int}, 0 < n → rr n par f x = true → ∃ v d : Nat, x = (v : Int) ∧ At n par d v := by
  intro f
  induction f with
  | zero => intro x _ h; cases h
  | succ f ih =>
    intro x hn h
    unfold rr at h
    by_cases h0 : x = 0
    · subst h0
      exact ⟨0, 0, rfl, rfl⟩
    · rw [if_neg h0] at h
      by_cases h1 : x < 0 ∨ (n : Int) ≤ x
      · rw [if_pos h1] at h
        cases h
      · rw [if_neg h1] at h
        obtain ⟨p, d, hp, hA⟩ := ih hn h
        exact ⟨x.toNat, d + 1, by omega, by omega, by omega, p, hp, hA.below hn, hA⟩

theorem at_rr : ∀ {d f v : Nat}, At n par d v → d < f → rr n par f (v : Int) = true := by
  intro d
  induction d with
  | zero =>
    intro f v h hf
    have : v = 0 := h
    subst this
    cases f with
    | zero => omega
    | succ f => simp [rr]
  | succ d ih =>
    intro f v h hf
    obtain ⟨h0, hv, p, e, hp, hA⟩ := h
    cases f with
    | zero => omega
    | succ f =>
      unfold rr
      rw [if_neg (by omega), if_neg (by omega), Int.toNat_natCast, e]
      exact ih hA (by omega)

theorem rr_iff (hn : 0 < n) (v : Nat) : rr n par (n + 1) (v : Int) = true ↔ v ∈ O n par := by
  rw [mem_O hn]
  constructor
  · intro h
    obtain ⟨v', d, e, hA⟩ := rr_at hn h
    have : v = v' := by omega
    subst this
    exact ⟨d, hA⟩
  · rintro ⟨d, h⟩
    exact at_rr h (by have := h.lt hn; omega)

/-! ### The laws -/
theorem law_source (hn : 0 < n) (b : Nat) : domB n par 0 b = rr n par (n + 1) (b : Int) := by
  rw [Bool.eq_iff_iff, dom_iff hn, rr_iff hn]
  exact ⟨fun h => h.2, fun h => ⟨(mem_O hn).2 ⟨0, at_zero⟩, h⟩⟩

theorem law_unreached (hn : 0 < n) (a b : Nat) (h : rr n par (n + 1) (b : Int) = false) : domB n par a b = false := by
  rw [Bool.eq_false_iff]
  intro hd
  obtain ⟨ha, hb⟩ := (dom_iff hn a b).1 hd
  have := (rr_iff hn b).2 (sub_O hn ha hb)
  rw [this] at h
  cases h

theorem law_root (hn : 0 < n) (a : Nat) : domB n par a 0 = decide (a = 0) := by
  rw [Bool.eq_iff_iff, dom_iff hn, decide_eq_true_eq]
  constructor
  · rintro ⟨ha, h0⟩
    obtain ⟨d, hA⟩ := (mem_O hn).1 ha
    obtain ⟨k, hk, _⟩ := mem_T_at hn hA h0
    have := hk.unique at_zero
    have hd : d = 0 := by omega
    subst hd
    exact hA
  · intro h
    subst h
    exact ⟨(mem_O hn).2 ⟨0, at_zero⟩, self_T hn at_zero⟩

/-- b is reached and not the source: its parent is a vertex, reached too. -/
theorem reached_parent (hn : 0 < n) {b : Nat} (h : rr n par (n + 1) (b : Int) = true) (h0 : b ≠ 0) : ∃ p : Nat, par b = (p : Int) ∧ p < n := by
  obtain ⟨d, hA⟩ := (mem_O hn).1 ((rr_iff hn b).1 h)
  cases d with
  | zero => exact absurd hA h0
  | succ d =>
    obtain ⟨_, _, p, e, hp, _⟩ := hA
    exact ⟨p, e, hp⟩

theorem law_step (hn : 0 < n) (a b p : Nat) (h : rr n par (n + 1) (b : Int) = true) (h0 : b ≠ 0) (e : par b = (p : Int)) :
    domB n par a b = (decide (a = b) || domB n par a p) := by
  obtain ⟨d, hA⟩ := (mem_O hn).1 ((rr_iff hn b).1 h)
  rw [Bool.eq_iff_iff, dom_iff hn, Bool.or_eq_true, decide_eq_true_eq, dom_iff hn]
  cases d with
  | zero => exact absurd hA h0
  | succ d =>
    have hbO := (rr_iff hn b).1 h
    constructor
    · rintro ⟨ha, hb⟩
      obtain ⟨da, hAa⟩ := (mem_O hn).1 ha
      rcases (mem_step hn hAa hA e).1 hb with h | h
      · exact Or.inl h.symm
      · exact Or.inr ⟨ha, h⟩
    · rintro (h | ⟨ha, hp⟩)
      · subst h
        exact ⟨hbO, self_T hn hA⟩
      · obtain ⟨da, hAa⟩ := (mem_O hn).1 ha
        exact ⟨ha, (mem_step hn hAa hA e).2 (Or.inr hp)⟩

theorem law_self (hn : 0 < n) (a : Nat) : domB n par a a = rr n par (n + 1) (a : Int) := by
  rw [Bool.eq_iff_iff, dom_iff hn, rr_iff hn]
  constructor
  · exact fun h => h.1
  · intro h
    obtain ⟨d, hA⟩ := (mem_O hn).1 h
    exact ⟨h, self_T hn hA⟩

theorem law_only (hn : 0 < n) (a b : Nat) (h : domB n par a b = true) : rr n par (n + 1) (a : Int) = true ∧ rr n par (n + 1) (b : Int) = true := by
  obtain ⟨ha, hb⟩ := (dom_iff hn a b).1 h
  exact ⟨(rr_iff hn a).2 ha, (rr_iff hn b).2 (sub_O hn ha hb)⟩

theorem T_trans (hn : 0 < n) {a b : Nat} {da : Nat} (ha : At n par da a) (hb : b ∈ T n par a) : ∀ (d c : Nat), At n par d c → c ∈ T n par b → c ∈ T n par a := by
  obtain ⟨k, hkb, _⟩ := mem_T_at hn ha hb
  intro d
  induction d with
  | zero =>
    intro c hc hcb
    obtain ⟨j, hj, hu⟩ := mem_T_at hn hkb hcb
    have hc0 : c = 0 := hc
    have := hj.unique hc
    have hj0 : j = 0 := by omega
    subst hj0
    have : c = b := hu
    rw [this]
    exact hb
  | succ d ih =>
    intro c hc hcb
    have hc' := hc
    obtain ⟨_, _, p, e, _, hp⟩ := hc'
    rcases (mem_step hn hkb hc e).1 hcb with h | h
    · rw [h]; exact hb
    · exact (mem_step hn ha hc e).2 (Or.inr (ih p hp h))

theorem law_trans (hn : 0 < n) (a b c : Nat) (h1 : domB n par a b = true) (h2 : domB n par b c = true) : domB n par a c = true := by
  obtain ⟨ha, hb⟩ := (dom_iff hn a b).1 h1
  obtain ⟨hb', hc⟩ := (dom_iff hn b c).1 h2
  obtain ⟨da, hAa⟩ := (mem_O hn).1 ha
  obtain ⟨dc, hAc⟩ := (mem_O hn).1 (sub_O hn hb' hc)
  exact (dom_iff hn a c).2 ⟨ha, T_trans hn hAa hb dc c hAc hc⟩

theorem law_antisymm (hn : 0 < n) (a b : Nat) (h1 : domB n par a b = true) (h2 : domB n par b a = true) : a = b := by
  obtain ⟨ha, hb⟩ := (dom_iff hn a b).1 h1
  obtain ⟨_, ha'⟩ := (dom_iff hn b a).1 h2
  obtain ⟨da, hAa⟩ := (mem_O hn).1 ha
  obtain ⟨k, hk, hu⟩ := mem_T_at hn hAa hb
  obtain ⟨j, hj, _⟩ := mem_T_at hn hk ha'
  have := hj.unique hAa
  have hk0 : k = 0 := by omega
  subst hk0
  have : b = a := hu
  exact this.symm

theorem law_chain (hn : 0 < n) (a b c : Nat) (h1 : domB n par a b = true) (h2 : domB n par c b = true) : domB n par a c = true ∨ domB n par c a = true := by
  obtain ⟨ha, hb⟩ := (dom_iff hn a b).1 h1
  obtain ⟨hc, hb'⟩ := (dom_iff hn c b).1 h2
  obtain ⟨da, hAa⟩ := (mem_O hn).1 ha
  obtain ⟨dc, hAc⟩ := (mem_O hn).1 hc
  obtain ⟨db, hAb⟩ := (mem_O hn).1 (sub_O hn ha hb)
  have key : ∀ (d b : Nat), At n par d b → b ∈ T n par a → b ∈ T n par c → c ∈ T n par a ∨ a ∈ T n par c := by
    intro d
    induction d with
    | zero =>
      intro b hAb hb hb'
      have hb0 : b = 0 := hAb
      subst hb0
      obtain ⟨k, hk, hu⟩ := mem_T_at hn hAa hb
      have := hk.unique at_zero
      have hk0 : k = 0 := by omega
      subst hk0
      have : 0 = a := hu
      subst this
      exact Or.inl hc
    | succ d ih =>
      intro b hAb hb hb'
      have hAb' := hAb
      obtain ⟨_, _, p, e, _, hp⟩ := hAb'
      rcases (mem_step hn hAa hAb e).1 hb with h | h
      · subst h; exact Or.inr hb'
      · rcases (mem_step hn hAc hAb e).1 hb' with h' | h'
        · subst h'; exact Or.inl hb
        · exact ih p hp h h'
  rcases key db b hAb hb hb' with h | h
  · exact Or.inl ((dom_iff hn a c).2 ⟨ha, h⟩)
  · exact Or.inr ((dom_iff hn c a).2 ⟨hc, h⟩)

/-! ### The arrays, loop by loop -/
/-- The first of a list of children, or -1. -/
def hdOr : List Nat → Int
  | [] => -1
  | c :: _ => (c : Int)
variable (n par)
/-- head, next, once the children from lo on have been hung. -/
def headV (lo p : Nat) : Int := hdOr (kidsFrom n par lo p)
def nextV (lo c : Nat) : Int := if lo ≤ c ∧ 0 ≤ par c ∧ par c < (n : Int) then hdOr (kidsFrom n par (c + 1) (par c).toNat) else -1
variable {n par}

theorem headV_end {lo p : Nat} (h : n ≤ lo) : headV n par lo p = -1 := by unfold headV; rw [kidsFrom_end h]; rfl
theorem nextV_end {lo c : Nat} (h : n ≤ lo) (hc : c < n) : nextV n par lo c = -1 := by unfold nextV; rw [if_neg (by omega)]

/-- v is hung below p. -/
theorem headV_hang {v p : Nat} (hv : v < n) (hp : par v = (p : Int)) (q : Nat) : headV n par v q = if q = p then (v : Int) else headV n par (v + 1) q := by
  unfold headV
  by_cases h : q = p
  · subst h
    rw [if_pos rfl, kidsFrom_cons hv hp]
    rfl
  · rw [if_neg h, kidsFrom_skip hv (by omega)]

theorem nextV_hang {v p : Nat} (hp : par v = (p : Int)) (hpn : p < n) (c : Nat) : nextV n par v c = if c = v then headV n par (v + 1) p else nextV n par (v + 1) c := by
  unfold nextV headV
  by_cases h : c = v
  · subst h
    rw [if_pos rfl, if_pos (by omega), hp, Int.toNat_natCast]
  · rw [if_neg h]
    by_cases h2 : v ≤ c ∧ 0 ≤ par c ∧ par c < (n : Int)
    · rw [if_pos h2, if_pos (by omega)]
    · rw [if_neg h2, if_neg (by omega)]

/-- v is hung nowhere. -/
theorem headV_skip {v : Nat} (hv : v < n) (hp : par v < 0 ∨ (n : Int) ≤ par v) (q : Nat) (hq : q < n) : headV n par v q = headV n par (v + 1) q := by
  unfold headV
  rw [kidsFrom_skip hv (by omega)]

theorem nextV_skip {v : Nat} (hp : par v < 0 ∨ (n : Int) ≤ par v) (c : Nat) : nextV n par v c = nextV n par (v + 1) c := by
  unfold nextV
  by_cases h2 : v ≤ c ∧ 0 ≤ par c ∧ par c < (n : Int)
  · have : c ≠ v := by
      intro h
      subst h
      omega
    rw [if_pos h2, if_pos (by omega)]
  · rw [if_neg h2, if_neg (by omega)]

/-- What next leads to from the first child of a list. -/
theorem nextV_first {lo p c : Nat} {r : List Nat} (hpn : p < n) (hlo : 1 ≤ lo) (h : kidsFrom n par lo p = c :: r) : nextV n par 1 c = hdOr (kidsFrom n par (c + 1) p) ∧ r = kidsFrom n par (c + 1) p ∧ c < n ∧ lo ≤ c := by
  obtain ⟨h1, h2, h3, h4⟩ := kidsFrom_first n lo p c r (by omega) h
  refine ⟨?_, h4, h2, h1⟩
  unfold nextV
  rw [if_pos (by omega), h3, Int.toNat_natCast]

/-- pre while the order is being made. -/
def preO (o : List Nat) (y : Nat) : Int := if y ∈ o then (o.idxOf y : Int) else -1

theorem preO_nil (y : Nat) : preO [] y = -1 := by simp [preO]

theorem preO_snoc {o : List Nat} {v : Nat} (hv : v ∉ o) (y : Nat) : preO (o ++ [v]) y = if y = v then (o.length : Int) else preO o y := by
  unfold preO
  by_cases h : y = v
  · subst h
    rw [if_pos (by simp), if_pos rfl, List.idxOf_append, if_neg hv]
    simp
  · rw [if_neg h]
    by_cases ho : y ∈ o
    · rw [if_pos (by simp [ho]), if_pos ho, List.idxOf_append, if_pos ho]
    · rw [if_neg (by simp [ho, h]), if_neg ho]

variable (n par)
/-- The state of the walk down the tree: o made, the stack s (its top last) still to be gone through. -/
def Going (o s : List Nat) : Prop := O n par = o ++ s.reverse.flatMap (T n par) ∧ ∀ x ∈ s, x ∈ O n par
variable {n par}

theorem going_start (hn : 0 < n) : Going n par [] [0] := by
  refine ⟨by simp [O], ?_⟩
  intro x hx
  simp at hx
  subst hx
  exact (mem_O hn).2 ⟨0, at_zero⟩

theorem going_end {o : List Nat} (h : Going n par o []) : o = O n par := by
  have := h.1
  simpa using this.symm

theorem T_pos {v : Nat} (hn : 0 < n) (hv : v ∈ O n par) : 1 ≤ (T n par v).length := by
  obtain ⟨d, h⟩ := (mem_O hn).1 hv
  rw [T_unfold hn h]
  simp

theorem flat_ge (hn : 0 < n) : ∀ s : List Nat, (∀ x ∈ s, x ∈ O n par) → s.length ≤ (s.flatMap (T n par)).length := by
  intro s
  induction s with
  | nil => intro _; simp
  | cons v s ih =>
    intro h
    have h1 := ih (fun x hx => h x (by simp [hx]))
    have h2 := T_pos hn (h v (by simp))
    rw [List.flatMap_cons, List.length_append, List.length_cons]
    omega

/-- Order and stack together never outgrow the arrays. -/
theorem going_room (hn : 0 < n) {o s : List Nat} (h : Going n par o s) : o.length + s.length ≤ n := by
  have h1 := O_length (par := par) hn
  have h2 := flat_ge hn s.reverse (fun x hx => h.2 x (List.mem_reverse.1 hx))
  rw [h.1, List.length_append] at h1
  rw [List.length_reverse] at h2
  omega

/-- One round: v comes off the stack into the order, its children go onto it. -/
theorem going_step (hn : 0 < n) {o s : List Nat} {v : Nat} (h : Going n par o (s ++ [v])) : Going n par (o ++ [v]) (s ++ kids n par v) ∧ v ∉ o ∧ v < n := by
  have hv : v ∈ O n par := h.2 v (by simp)
  obtain ⟨d, hA⟩ := (mem_O hn).1 hv
  have hu := T_unfold hn hA
  refine ⟨⟨?_, ?_⟩, ?_, hA.below hn⟩
  · rw [h.1]
    simp [hu]
  · intro x hx
    rw [List.mem_append] at hx
    rcases hx with hx | hx
    · exact h.2 x (by simp [hx])
    · exact (mem_O hn).2 ⟨_, kid_at hn hA hx⟩
  · intro ho
    have hnd := nodup_O (par := par) hn
    rw [h.1, List.nodup_append] at hnd
    exact hnd.2.2 v ho v (by simp [hu]) rfl

theorem going_lt (hn : 0 < n) {o s : List Nat} (h : Going n par o s) : (∀ x ∈ o, x < n) ∧ ∀ x ∈ s, x < n := by
  constructor
  · intro x hx
    exact O_lt (par := par) hn x (by rw [h.1]; simp [hx])
  · intro x hx
    exact O_lt (par := par) hn x (h.2 x hx)

variable (n par)
/-- size, once the order from k on has been counted. -/
def sizeV (k y : Nat) : Nat := ((O n par).drop k).foldr (step par) (fun _ => 0) y
/-- post, once the first k of the order have got theirs. -/
def postO (k y : Nat) : Int := if y ∈ (O n par).take k then ((O n par).idxOf y : Int) + ((T n par y).length : Int) else -1
variable {n par}

theorem sizeV_end {k : Nat} (h : (O n par).length ≤ k) (y : Nat) : sizeV n par k y = 0 := by
  unfold sizeV
  rw [List.drop_eq_nil_of_le h]
  rfl

theorem sizeV_step {k v : Nat} (hv : (O n par)[k]? = some v) : sizeV n par k = step par v (sizeV n par (k + 1)) := by
  obtain ⟨hk, e⟩ := List.getElem?_eq_some_iff.1 hv
  unfold sizeV
  rw [List.drop_eq_getElem_cons hk, e]
  rfl

theorem sizeV_root {k : Nat} (hv : (O n par)[k]? = some 0) (y : Nat) : sizeV n par k y = if y = 0 then sizeV n par (k + 1) 0 + 1 else sizeV n par (k + 1) y := by
  rw [sizeV_step hv]
  unfold step
  rw [if_neg (by rintro ⟨h, _⟩; exact h rfl)]
  by_cases h : y = 0
  · subst h; rfl
  · rw [if_neg h, if_neg h]

/-- Of a vertex of the order that is not the root. -/
theorem O_parent (hn : 0 < n) {v : Nat} (hv : v ∈ O n par) (h0 : v ≠ 0) : ∃ p : Nat, par v = (p : Int) ∧ p < n ∧ p ≠ v ∧ p ∈ O n par := by
  obtain ⟨d, hA⟩ := (mem_O hn).1 hv
  cases d with
  | zero => exact absurd hA h0
  | succ d =>
    have hA' := hA
    obtain ⟨_, _, p, e, hp, hAp⟩ := hA'
    refine ⟨p, e, hp, ?_, (mem_O hn).2 ⟨d, hAp⟩⟩
    intro h
    subst h
    have := hA.unique hAp
    omega

theorem sizeV_other {k v p : Nat} (hv : (O n par)[k]? = some v) (h0 : v ≠ 0) (hp : par v = (p : Int)) (hpv : p ≠ v) (y : Nat) :
    sizeV n par k y = if y = p then sizeV n par (k + 1) p + (sizeV n par (k + 1) v + 1) else if y = v then sizeV n par (k + 1) v + 1 else sizeV n par (k + 1) y := by
  rw [sizeV_step hv]
  unfold step
  rw [hp, Int.toNat_natCast]
  by_cases h : y = p
  · subst h
    rw [if_pos ⟨h0, rfl⟩, if_pos rfl, if_neg hpv]
  · rw [if_neg (by rintro ⟨_, h'⟩; exact h h'), if_neg h]
    by_cases h' : y = v
    · subst h'; rfl
    · rw [if_neg h', if_neg h']

theorem sizeV_le (hn : 0 < n) (k : Nat) {y : Nat} (hy : y ∈ O n par) : sizeV n par k y ≤ n := fold_drop_le hn k y hy

theorem sizeV_all (hn : 0 < n) {y : Nat} (hy : y ∈ O n par) : sizeV n par 0 y = (T n par y).length := fold_O hn y hy

theorem postO_zero (y : Nat) : postO n par 0 y = -1 := by simp [postO]

theorem postO_step (hn : 0 < n) {k v : Nat} (hv : (O n par)[k]? = some v) (y : Nat) :
    postO n par (k + 1) y = if y = v then preV n par v + (sizeV n par 0 v : Int) else postO n par k y := by
  obtain ⟨hk, e⟩ := List.getElem?_eq_some_iff.1 hv
  have hvO : v ∈ O n par := List.mem_of_getElem? hv
  unfold postO preV
  rw [List.take_succ_eq_append_getElem hk, e]
  by_cases h : y = v
  · subst h
    rw [if_pos (by simp), if_pos rfl, if_pos hvO, sizeV_all hn hvO]
  · rw [if_neg h]
    by_cases ht : y ∈ (O n par).take k
    · rw [if_pos (by simp [ht]), if_pos ht]
    · rw [if_neg (by simp [ht, h]), if_neg ht]

theorem postO_end {k : Nat} (h : (O n par).length ≤ k) (y : Nat) : postO n par k y = postV n par y := by
  unfold postO postV
  rw [List.take_of_length_le h]

theorem preO_end (y : Nat) : preO (O n par) y = preV n par y := rfl

theorem preV_bd (hn : 0 < n) {y : Nat} (hy : y ∈ O n par) : 0 ≤ preV n par y ∧ preV n par y < (n : Int) := by
  unfold preV
  rw [if_pos hy]
  have h1 := List.idxOf_lt_length_of_mem hy
  have h2 := O_length (par := par) hn
  omega

end
end Go.Proofs.Qxb6618787a.Tree
