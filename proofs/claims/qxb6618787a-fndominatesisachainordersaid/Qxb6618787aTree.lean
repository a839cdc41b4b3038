/-
  THE PLAIN MATHEMATICS OF zzNumber: a tree given by parents (vertex 0 its root), its depth first order, the sizes. No Go in sight.
-/
namespace Go.Proofs.Qxb6618787a.Tree

/-- A list of different numbers below n is no longer than n. -/
theorem pigeon : ∀ (n : Nat) (l : List Nat), l.Nodup → (∀ x ∈ l, x < n) → l.length ≤ n := by
  intro n
  induction n with
  | zero =>
    intro l _ h
    cases l with
    | nil => exact Nat.le_refl _
    | cons a l => exact absurd (h a (by simp)) (by omega)
  | succ n ih =>
    intro l hn h
    by_cases hm : n ∈ l
    · have h1 := ih (l.erase n) (hn.erase n) (by
        intro x hx
        have := (hn.mem_erase_iff).1 hx
        have := h x this.2
        omega)
      rw [List.length_erase_of_mem hm] at h1
      omega
    · have := ih l hn (by
        intro x hx
        have := h x hx
        have : x ≠ n := fun e => hm (e ▸ hx)
        omega)
      omega

section
variable (n : Nat) (par : Nat → Int)

/-- v leads to 0 in just d steps. -/
def At : Nat → Nat → Prop
  | 0, v => v = 0
  | d + 1, v => v ≠ 0 ∧ v < n ∧ ∃ p : Nat, par v = (p : Int) ∧ p < n ∧ At d p

variable {n par}

theorem At.unique : ∀ {d d' v : Nat}, At n par d v → At n par d' v → d = d' := by
  intro d
  induction d with
  | zero =>
    intro d' v h h'
    cases d' with
    | zero => rfl
    | succ d' => exact absurd h h'.1
  | succ d ih =>
    intro d' v h h'
    cases d' with
    | zero => exact absurd h' h.1
    | succ d' =>
      obtain ⟨_, _, p, e, _, hp⟩ := h
      obtain ⟨_, _, p', e', _, hp'⟩ := h'
      have : p = p' := by omega
      subst this
      rw [ih hp hp']

theorem At.below {d v : Nat} (hn : 0 < n) (h : At n par d v) : v < n := by
  cases d with
  | zero => have : v = 0 := h; omega
  | succ d => exact h.2.1

theorem At.path : ∀ {d v : Nat}, 0 < n → At n par d v → ∃ l : List Nat, l.length = d + 1 ∧ l.Nodup ∧ ∀ x ∈ l, x < n ∧ ∃ i, i ≤ d ∧ At n par i x := by
  intro d
  induction d with
  | zero =>
    intro v hn h
    exact ⟨[v], rfl, by simp, fun x hx => by simp at hx; subst hx; exact ⟨h.below hn, 0, Nat.le_refl _, h⟩⟩
  | succ d ih =>
    intro v hn h
    obtain ⟨h0, hv, p, e, hp, hA⟩ := h
    obtain ⟨l, h1, h2, h3⟩ := ih hn hA
    refine ⟨v :: l, by simp [h1], ?_, ?_⟩
    · rw [List.nodup_cons]
      refine ⟨fun hm => ?_, h2⟩
      obtain ⟨_, i, hi, hAi⟩ := h3 v hm
      have hAv : At n par (d + 1) v := ⟨h0, hv, p, e, hp, hA⟩
      have := hAi.unique hAv
      omega
    · intro x hx
      simp only [List.mem_cons] at hx
      rcases hx with rfl | hx
      · exact ⟨hv, d + 1, Nat.le_refl _, h0, hv, p, e, hp, hA⟩
      · obtain ⟨a, i, b, c⟩ := h3 x hx
        exact ⟨a, i, by omega, c⟩

theorem At.lt {d v : Nat} (hn : 0 < n) (h : At n par d v) : d < n := by
  obtain ⟨l, h1, h2, h3⟩ := h.path hn
  have := pigeon n l h2 (fun x hx => (h3 x hx).1)
  omega

variable (n par)
/-- The children of p from lo on, upwards. -/
def kidsFrom (lo p : Nat) : List Nat := (List.range' lo (n - lo)).filter (fun c => decide (par c = (p : Int)))
def kids (p : Nat) : List Nat := kidsFrom n par 1 p
variable {n par}

theorem mem_kidsFrom {lo p c : Nat} : c ∈ kidsFrom n par lo p ↔ lo ≤ c ∧ c < n ∧ par c = (p : Int) := by
  unfold kidsFrom
  rw [List.mem_filter, List.mem_range'_1]
  simp
  omega

theorem kidsFrom_cons {lo p : Nat} (h : lo < n) (hp : par lo = (p : Int)) : kidsFrom n par lo p = lo :: kidsFrom n par (lo + 1) p := by
  unfold kidsFrom
  rw [show n - lo = (n - (lo + 1)) + 1 by omega, List.range'_succ, List.filter_cons]
  simp [hp]

theorem kidsFrom_skip {lo p : Nat} (h : lo < n) (hp : par lo ≠ (p : Int)) : kidsFrom n par lo p = kidsFrom n par (lo + 1) p := by
  unfold kidsFrom
  rw [show n - lo = (n - (lo + 1)) + 1 by omega, List.range'_succ, List.filter_cons]
  simp [hp]

theorem kidsFrom_end {lo p : Nat} (h : n ≤ lo) : kidsFrom n par lo p = [] := by
  unfold kidsFrom
  rw [show n - lo = 0 by omega]
  rfl

/-- The list from its own first child on. -/
theorem kidsFrom_first : ∀ (k lo p c : Nat) (r : List Nat), n - lo ≤ k → kidsFrom n par lo p = c :: r → lo ≤ c ∧ c < n ∧ par c = (p : Int) ∧ r = kidsFrom n par (c + 1) p := by
  intro k
  induction k with
  | zero =>
    intro lo p c r hk h
    rw [kidsFrom_end (by omega)] at h
    cases h
  | succ k ih =>
    intro lo p c r hk h
    by_cases hlo : lo < n
    · by_cases hp : par lo = (p : Int)
      · rw [kidsFrom_cons hlo hp] at h
        injection h with h1 h2
        subst h1
        exact ⟨Nat.le_refl _, hlo, hp, h2.symm⟩
      · rw [kidsFrom_skip hlo hp] at h
        obtain ⟨a, b, c, d⟩ := ih (lo + 1) p c r (by omega) h
        exact ⟨by omega, b, c, d⟩
    · rw [kidsFrom_end (by omega)] at h
      cases h

theorem kid_at {d p c : Nat} (hn : 0 < n) (hp : At n par d p) (hc : c ∈ kids n par p) : At n par (d + 1) c := by
  obtain ⟨h1, h2, h3⟩ := mem_kidsFrom.1 hc
  exact ⟨by omega, h2, p, h3, hp.below hn, hp⟩

variable (n par)
/-- k steps up from x lies v. -/
def Up : Nat → Nat → Nat → Prop
  | 0, x, v => x = v
  | k + 1, x, v => ∃ p : Nat, par x = (p : Int) ∧ Up k p v

/-- The depth first order below v (the children from the last to the first), to depth f. -/
def sub : Nat → Nat → List Nat
  | 0, _ => []
  | f + 1, v => v :: (kids n par v).reverse.flatMap (sub f)
variable {n par}

theorem Up.unique : ∀ {k x v v' : Nat}, Up par k x v → Up par k x v' → v = v' := by
  intro k
  induction k with
  | zero => intro x v v' h h'; exact h.symm.trans h'
  | succ k ih =>
    intro x v v' h h'
    obtain ⟨p, e, h⟩ := h
    obtain ⟨p', e', h'⟩ := h'
    have : p = p' := by omega
    subst this
    exact ih h h'

theorem Up.snoc : ∀ {k x c v : Nat}, Up par k x c → par c = (v : Int) → Up par (k + 1) x v := by
  intro k
  induction k with
  | zero => intro x c v h hc; have : x = c := h; subst this; exact ⟨v, hc, rfl⟩
  | succ k ih =>
    intro x c v h hc
    obtain ⟨p, e, h⟩ := h
    exact ⟨p, e, ih h hc⟩

theorem mem_sub (hn : 0 < n) : ∀ {f d v x : Nat}, At n par d v → x ∈ sub n par f v → ∃ k, At n par (d + k) x ∧ Up par k x v := by
  intro f
  induction f with
  | zero => intro d v x _ h; cases h
  | succ f ih =>
    intro d v x hv h
    simp only [sub, List.mem_cons, List.mem_flatMap, List.mem_reverse] at h
    rcases h with rfl | ⟨c, hc, hx⟩
    · exact ⟨0, hv, rfl⟩
    · obtain ⟨k, h1, h2⟩ := ih (kid_at hn hv hc) hx
      exact ⟨k + 1, by rw [show d + (k + 1) = d + 1 + k by omega]; exact h1, h2.snoc (mem_kidsFrom.1 hc).2.2⟩

theorem nodup_kidsFrom (lo p : Nat) : (kidsFrom n par lo p).Nodup := (List.nodup_range').filter _

theorem nodup_sub (hn : 0 < n) : ∀ {f d v : Nat}, At n par d v → (sub n par f v).Nodup := by
  intro f
  induction f with
  | zero => intro d v _; simp [sub]
  | succ f ih =>
    intro d v hv
    simp only [sub, List.nodup_cons]
    constructor
    · intro h
      simp only [List.mem_flatMap, List.mem_reverse] at h
      obtain ⟨c, hc, hx⟩ := h
      obtain ⟨k, h1, -⟩ := mem_sub hn (kid_at hn hv hc) hx
      have := h1.unique hv
      omega
    · have hk : ∀ l : List Nat, l.Nodup → (∀ c ∈ l, c ∈ kids n par v) → (l.flatMap (sub n par f)).Nodup := by
        intro l
        induction l with
        | nil => intro _ _; simp
        | cons c l ihl =>
          intro hl hm
          rw [List.flatMap_cons, List.nodup_append]
          rw [List.nodup_cons] at hl
          refine ⟨ih (kid_at hn hv (hm c (by simp))), ihl hl.2 (fun x hx => hm x (by simp [hx])), ?_⟩
          intro x hx y hy hxy
          subst hxy
          simp only [List.mem_flatMap] at hy
          obtain ⟨c', hc', hx'⟩ := hy
          obtain ⟨k, a1, a2⟩ := mem_sub hn (kid_at hn hv (hm c (by simp))) hx
          obtain ⟨k', b1, b2⟩ := mem_sub hn (kid_at hn hv (hm c' (by simp [hc']))) hx'
          have := a1.unique b1
          have hkk : k = k' := by omega
          subst hkk
          have := a2.unique b2
          subst this
          exact hl.1 hc'
      exact hk _ ((List.reverse_perm _).nodup_iff.2 (nodup_kidsFrom 1 v)) (fun c hc => List.mem_reverse.1 hc)

variable (n par)
/-- The depth, by as many steps as there are vertices. -/
def depF : Nat → Nat → Nat
  | 0, _ => 0
  | f + 1, v => if v = 0 then 0 else depF f (par v).toNat + 1
def dep (v : Nat) : Nat := depF par n v
/-- The tree below v, in depth first order. -/
def T (v : Nat) : List Nat := sub n par (n - dep n par v) v
/-- The whole order. -/
def O : List Nat := T n par 0
variable {n par}

theorem depF_at : ∀ {d f v : Nat}, At n par d v → d ≤ f → depF par f v = d := by
  intro d
  induction d with
  | zero =>
    intro f v h _
    have : v = 0 := h
    subst this
    cases f with
    | zero => rfl
    | succ f => simp [depF]
  | succ d ih =>
    intro f v h hf
    obtain ⟨h0, _, p, e, _, hp⟩ := h
    cases f with
    | zero => omega
    | succ f =>
      have := ih (f := f) hp (by omega)
      simp only [depF, h0, if_false, e, Int.toNat_natCast, this]

theorem dep_at {d v : Nat} (hn : 0 < n) (h : At n par d v) : dep n par v = d := depF_at h (Nat.le_of_lt (h.lt hn))

theorem T_at {d v : Nat} (hn : 0 < n) (h : At n par d v) : T n par v = sub n par (n - d) v := by unfold T; rw [dep_at hn h]

theorem flatMap_congr {α β : Type} {l : List α} {f g : α → List β} (h : ∀ x ∈ l, f x = g x) : l.flatMap f = l.flatMap g := by
  induction l with
  | nil => rfl
  | cons a l ih =>
    rw [List.flatMap_cons, List.flatMap_cons, h a (by simp), ih (fun x hx => h x (by simp [hx]))]

theorem T_unfold {d v : Nat} (hn : 0 < n) (h : At n par d v) : T n par v = v :: (kids n par v).reverse.flatMap (T n par) := by
  have hlt := h.lt hn
  rw [T_at hn h, show n - d = (n - (d + 1)) + 1 by omega]
  show v :: _ = _
  congr 1
  apply flatMap_congr
  intro c hc
  rw [T_at hn (kid_at hn h (List.mem_reverse.1 hc))]

theorem mem_T_at {d v x : Nat} (hn : 0 < n) (h : At n par d v) (hx : x ∈ T n par v) : ∃ k, At n par (d + k) x ∧ Up par k x v := by
  rw [T_at hn h] at hx
  exact mem_sub hn h hx

theorem nodup_T {d v : Nat} (hn : 0 < n) (h : At n par d v) : (T n par v).Nodup := by
  rw [T_at hn h]
  exact nodup_sub hn h

theorem self_T {d v : Nat} (hn : 0 < n) (h : At n par d v) : v ∈ T n par v := by
  rw [T_unfold hn h]
  simp

/-- One step down. -/
theorem mem_T_kid {d v c x : Nat} (hn : 0 < n) (h : At n par d v) (hc : c ∈ kids n par v) (hx : x ∈ T n par c) : x ∈ T n par v := by
  rw [T_unfold hn h]
  simp only [List.mem_cons, List.mem_flatMap, List.mem_reverse]
  exact Or.inr ⟨c, hc, hx⟩

theorem mem_T_cases {d v x : Nat} (hn : 0 < n) (h : At n par d v) (hx : x ∈ T n par v) : x = v ∨ ∃ c ∈ kids n par v, x ∈ T n par c := by
  rw [T_unfold hn h] at hx
  simp only [List.mem_cons, List.mem_flatMap, List.mem_reverse] at hx
  exact hx

/-- An induction over the tree below v: by how deep the rest can be. -/
theorem T_step_up (hn : 0 < n) {b p : Nat} (e : par b = (p : Int)) :
    ∀ (k a da : Nat), At n par da a → n - da ≤ k → b ∈ T n par a → b = a ∨ p ∈ T n par a := by
  intro k
  induction k with
  | zero =>
    intro a da ha hk _
    have := ha.lt hn
    omega
  | succ k ih =>
    intro a da ha hk hba
    rcases mem_T_cases hn ha hba with h | ⟨c, hc, h⟩
    · exact Or.inl h
    · right
      have hca := kid_at hn ha hc
      rcases ih c (da + 1) hca (by omega) h with h' | h'
      · subst h'
        have := (mem_kidsFrom.1 hc).2.2
        have hpa : p = a := by omega
        subst hpa
        exact self_T hn ha
      · exact mem_T_kid hn ha hc h'

theorem T_step_down (hn : 0 < n) {b p db : Nat} (hb : At n par (db + 1) b) (e : par b = (p : Int)) :
    ∀ (k a da : Nat), At n par da a → n - da ≤ k → p ∈ T n par a → b ∈ T n par a := by
  intro k
  induction k with
  | zero =>
    intro a da ha hk _
    have := ha.lt hn
    omega
  | succ k ih =>
    intro a da ha hk hpa
    rcases mem_T_cases hn ha hpa with h | ⟨c, hc, h⟩
    · subst h
      have hbk : b ∈ kids n par p := mem_kidsFrom.2 ⟨by have := hb.1; omega, hb.2.1, e⟩
      exact mem_T_kid hn ha hbk (self_T hn hb)
    · exact mem_T_kid hn ha hc (ih c (da + 1) (kid_at hn ha hc) (by omega) h)

/-- THE STEP UP THE TREE. -/
theorem mem_step (hn : 0 < n) {a b p da db : Nat} (ha : At n par da a) (hb : At n par (db + 1) b) (e : par b = (p : Int)) :
    b ∈ T n par a ↔ b = a ∨ p ∈ T n par a := by
  constructor
  · exact T_step_up hn e (n - da) a da ha (Nat.le_refl _)
  · rintro (h | h)
    · subst h; exact self_T hn hb
    · exact T_step_down hn hb e (n - da) a da ha (Nat.le_refl _) h

theorem at_zero : At n par 0 0 := rfl

theorem mem_O {v : Nat} (hn : 0 < n) : v ∈ O n par ↔ ∃ d, At n par d v := by
  constructor
  · intro h
    obtain ⟨k, hk, _⟩ := mem_T_at hn at_zero h
    exact ⟨_, hk⟩
  · rintro ⟨d, h⟩
    induction d generalizing v with
    | zero =>
      have : v = 0 := h
      subst this
      exact self_T hn at_zero
    | succ d ih =>
      have h' := h
      obtain ⟨_, _, p, e, _, hp⟩ := h'
      exact (mem_step hn at_zero h e).2 (Or.inr (ih hp))

theorem nodup_O (hn : 0 < n) : (O n par).Nodup := nodup_T hn at_zero
theorem O_lt (hn : 0 < n) : ∀ x ∈ O n par, x < n := fun x hx => by
  obtain ⟨d, h⟩ := (mem_O hn).1 hx
  exact h.below hn
theorem O_length (hn : 0 < n) : (O n par).length ≤ n := pigeon n _ (nodup_O hn) (O_lt hn)

theorem sub_O {v x : Nat} (hn : 0 < n) (hv : v ∈ O n par) (hx : x ∈ T n par v) : x ∈ O n par := by
  obtain ⟨d, h⟩ := (mem_O hn).1 hv
  obtain ⟨k, hk, _⟩ := mem_T_at hn h hx
  exact (mem_O hn).2 ⟨_, hk⟩

/-- The tree below a lies in one piece in the order below v. -/
theorem segment (hn : 0 < n) {a : Nat} : ∀ (k v dv : Nat), At n par dv v → n - dv ≤ k → a ∈ T n par v → ∃ A B, T n par v = A ++ (T n par a ++ B) := by
  intro k
  induction k with
  | zero =>
    intro v dv hv hk _
    have := hv.lt hn
    omega
  | succ k ih =>
    intro v dv hv hk hav
    rcases mem_T_cases hn hv hav with h | ⟨c, hc, h⟩
    · subst h
      exact ⟨[], [], by simp⟩
    · obtain ⟨A, B, e⟩ := ih c (dv + 1) (kid_at hn hv hc) (by omega) h
      obtain ⟨K1, K2, eK⟩ := List.append_of_mem (List.mem_reverse.2 hc)
      refine ⟨v :: (K1.flatMap (T n par) ++ A), B ++ K2.flatMap (T n par), ?_⟩
      rw [T_unfold hn hv, eK, List.flatMap_append, List.flatMap_cons, e]
      simp

/-- Where a stands, and where the tree below it ends: what lies between is the tree below a. -/
theorem between_iff (hn : 0 < n) {a b : Nat} (ha : a ∈ O n par) (hb : b ∈ O n par) :
    ((O n par).idxOf a ≤ (O n par).idxOf b ∧ (O n par).idxOf b < (O n par).idxOf a + (T n par a).length) ↔ b ∈ T n par a := by
  obtain ⟨da, hA⟩ := (mem_O hn).1 ha
  obtain ⟨A, B, e⟩ := segment hn (n - 0) 0 0 at_zero (Nat.le_refl _) ha
  have e' : O n par = A ++ (T n par a ++ B) := e
  have hnd := nodup_O (par := par) hn
  have hTu := T_unfold hn hA
  have hia : (O n par).idxOf a = A.length := by
    rw [e', List.idxOf_append, if_neg ?_, hTu]
    · simp
    · intro hm
      rw [e', List.nodup_append] at hnd
      exact hnd.2.2 a hm a (by simp [self_T hn hA]) rfl
  have hbl := List.idxOf_lt_length_of_mem hb
  have hgb : (O n par)[(O n par).idxOf b] = b := List.getElem_idxOf hbl
  rw [hia]
  constructor
  · rintro ⟨h1, h2⟩
    have : (O n par)[(O n par).idxOf b]? = some b := by rw [List.getElem?_eq_getElem hbl, hgb]
    rw [e', List.getElem?_append_right (by rw [← e']; exact h1), List.getElem?_append_left (by rw [← e']; omega)] at this
    exact List.mem_of_getElem? this
  · intro h
    obtain ⟨j, hj, hjb⟩ := List.mem_iff_getElem.1 h
    have hlen : A.length + j < (O n par).length := by rw [e']; simp; omega
    have hg : (O n par)[A.length + j] = b := by
      have : (O n par)[A.length + j]? = some b := by
        rw [e', List.getElem?_append_right (by omega), List.getElem?_append_left (by omega), Nat.add_sub_cancel_left, List.getElem?_eq_getElem hj, hjb]
      rw [List.getElem?_eq_getElem hlen] at this
      injection this
    have := hnd.idxOf_getElem (A.length + j) hlen
    rw [hg] at this
    omega

/-! ### The sizes -/
variable (par)
/-- One round of the count: v is one more, and its parent gains what v has. -/
def step (v : Nat) (g : Nat → Nat) : Nat → Nat :=
  fun y => if v ≠ 0 ∧ y = (par v).toNat then (if y = v then g y + 1 else g y) + (g v + 1) else if y = v then g y + 1 else g y
variable {par}

theorem step_le (v : Nat) (g : Nat → Nat) (y : Nat) : g y ≤ step par v g y := by
  unfold step
  split
  · split <;> omega
  · split <;> omega

theorem foldr_le (l : List Nat) (g : Nat → Nat) (y : Nat) : g y ≤ l.foldr (step par) g y := by
  induction l with
  | nil => exact Nat.le_refl _
  | cons v l ih => exact Nat.le_trans ih (step_le v _ y)

theorem length_flatMap_T (l : List Nat) : (l.flatMap (T n par)).length = (l.map fun c => (T n par c).length).sum := by
  rw [List.length_flatMap]

/-- What the count makes of the trees below some of v's children. -/
theorem fold_kids (hn : 0 < n) {v d : Nat} (hv : At n par d v)
    (ih : ∀ c ∈ kids n par v, ∀ g : Nat → Nat, (∀ y ∈ T n par c, g y = 0) →
      (∀ y ∈ T n par c, (T n par c).foldr (step par) g y = (T n par y).length) ∧ (T n par c).foldr (step par) g v = g v + (T n par c).length ∧
      ∀ y, y ∉ T n par c → y ≠ v → (T n par c).foldr (step par) g y = g y) :
    ∀ l : List Nat, l.Nodup → (∀ c ∈ l, c ∈ kids n par v) → ∀ g : Nat → Nat, (∀ y ∈ l.flatMap (T n par), g y = 0) →
      (∀ y ∈ l.flatMap (T n par), (l.flatMap (T n par)).foldr (step par) g y = (T n par y).length) ∧ (l.flatMap (T n par)).foldr (step par) g v = g v + (l.flatMap (T n par)).length ∧
      ∀ y, y ∉ l.flatMap (T n par) → y ≠ v → (l.flatMap (T n par)).foldr (step par) g y = g y := by
  intro l
  induction l with
  | nil => intro _ _ g _; simp
  | cons c l ihl =>
    intro hl hm g hg
    rw [List.nodup_cons] at hl
    have hmc := hm c (by simp)
    obtain ⟨r1, r2, r3⟩ := ihl hl.2 (fun x hx => hm x (by simp [hx])) g (fun y hy => hg y (by rw [List.flatMap_cons]; simp [hy]))
    have hdisj : ∀ y ∈ T n par c, y ∉ l.flatMap (T n par) ∧ y ≠ v := by
      intro y hy
      obtain ⟨k, a1, a2⟩ := mem_T_at hn (kid_at hn hv hmc) hy
      constructor
      · intro hy'
        simp only [List.mem_flatMap] at hy'
        obtain ⟨c', hc', hx'⟩ := hy'
        obtain ⟨k', b1, b2⟩ := mem_T_at hn (kid_at hn hv (hm c' (by simp [hc']))) hx'
        have := a1.unique b1
        have hkk : k = k' := by omega
        subst hkk
        have := a2.unique b2
        subst this
        exact hl.1 hc'
      · intro h
        subst h
        have := a1.unique hv
        omega
    obtain ⟨s1, s2, s3⟩ := ih c hmc ((l.flatMap (T n par)).foldr (step par) g) (fun y hy => by
      rw [r3 y (hdisj y hy).1 (hdisj y hy).2]
      exact hg y (by rw [List.flatMap_cons]; simp [hy]))
    rw [List.flatMap_cons, List.foldr_append]
    refine ⟨?_, ?_, ?_⟩
    · intro y hy
      rw [List.mem_append] at hy
      rcases hy with hy | hy
      · exact s1 y hy
      · have hyc : y ∉ T n par c := fun h => (hdisj y h).1 hy
        have hyv : y ≠ v := by
          intro h
          subst h
          simp only [List.mem_flatMap] at hy
          obtain ⟨c', hc', hx'⟩ := hy
          obtain ⟨k', b1, _⟩ := mem_T_at hn (kid_at hn hv (hm c' (by simp [hc']))) hx'
          have := b1.unique hv
          omega
        rw [s3 y hyc hyv]
        exact r1 y hy
    · rw [s2, r2, List.length_append]
      omega
    · intro y hy hyv
      rw [List.mem_append] at hy
      rw [s3 y (fun h => hy (Or.inl h)) hyv]
      exact r3 y (fun h => hy (Or.inr h)) hyv

/-- What the count makes of the whole tree below a vertex that is not the root. -/
theorem fold_T (hn : 0 < n) : ∀ (k v d p : Nat), At n par (d + 1) v → n - (d + 1) ≤ k → par v = (p : Int) → At n par d p → ∀ g : Nat → Nat, (∀ y ∈ T n par v, g y = 0) →
    (∀ y ∈ T n par v, (T n par v).foldr (step par) g y = (T n par y).length) ∧ (T n par v).foldr (step par) g p = g p + (T n par v).length ∧
    ∀ y, y ∉ T n par v → y ≠ p → (T n par v).foldr (step par) g y = g y := by
  intro k
  induction k with
  | zero =>
    intro v d p hv hk
    have := hv.lt hn
    omega
  | succ k ihk =>
    intro v d p hv hk hp hpd g hg
    have hu := T_unfold hn hv
    have hv0 : v ≠ 0 := hv.1
    have hpv : p ≠ v := by
      intro h
      subst h
      have := hpd.unique hv
      omega
    have hpT : p ∉ T n par v := by
      intro h
      obtain ⟨j, hj, _⟩ := mem_T_at hn hv h
      have := hj.unique hpd
      omega
    obtain ⟨r1, r2, r3⟩ := fold_kids hn hv (fun c hc g' hg' => ihk c (d + 1) v (kid_at hn hv hc) (by omega) (mem_kidsFrom.1 hc).2.2 hv g' hg')
      (kids n par v).reverse ((List.reverse_perm _).nodup_iff.2 (nodup_kidsFrom 1 v)) (fun c hc => List.mem_reverse.1 hc) g (fun y hy => hg y (by rw [hu]; simp only [List.mem_cons]; exact Or.inr hy))
    have hvM : v ∉ (kids n par v).reverse.flatMap (T n par) := by
      have := nodup_T hn hv
      rw [hu, List.nodup_cons] at this
      exact this.1
    have hpM : p ∉ (kids n par v).reverse.flatMap (T n par) := by
      intro h
      exact hpT (by rw [hu]; simp only [List.mem_cons]; exact Or.inr h)
    have hgv : g v = 0 := hg v (self_T hn hv)
    have hlen : (T n par v).length = ((kids n par v).reverse.flatMap (T n par)).length + 1 := by rw [hu]; simp
    have hpar : (par v).toNat = p := by rw [hp]; simp
    rw [hgv, Nat.zero_add] at r2
    have hfold : (T n par v).foldr (step par) g = step par v (((kids n par v).reverse.flatMap (T n par)).foldr (step par) g) := by rw [hu]; rfl
    rw [hfold]
    generalize hG : ((kids n par v).reverse.flatMap (T n par)).foldr (step par) g = G at *
    refine ⟨?_, ?_, ?_⟩
    · intro y hy
      have hyp : y ≠ p := fun h => hpT (h ▸ hy)
      unfold step
      rw [hpar, if_neg (by rintro ⟨_, h⟩; exact hyp h)]
      by_cases hyv : y = v
      · subst hyv
        rw [if_pos rfl, r2, hlen]
      · rw [if_neg hyv]
        apply r1
        rw [hu] at hy
        simp only [List.mem_cons] at hy
        exact hy.resolve_left hyv
    · unfold step
      rw [hpar, if_pos ⟨hv0, rfl⟩, if_neg hpv, r2, r3 p hpM hpv, hlen]
    · intro y hy hyp
      unfold step
      have hyv : y ≠ v := by
        intro h
        subst h
        exact hy (self_T hn hv)
      rw [hpar, if_neg (by rintro ⟨_, h⟩; exact hyp h), if_neg hyv]
      apply r3 y _ hyv
      intro h
      exact hy (by rw [hu]; simp only [List.mem_cons]; exact Or.inr h)

/-- THE SIZES: behind the whole count each vertex reached has the size of its tree. -/
theorem fold_O (hn : 0 < n) : ∀ y ∈ O n par, (O n par).foldr (step par) (fun _ => 0) y = (T n par y).length := by
  have hv : At n par 0 0 := at_zero
  have hu := T_unfold hn hv
  obtain ⟨r1, r2, r3⟩ := fold_kids hn hv (fun c hc g' hg' => fold_T hn (n - 1) c 0 0 (kid_at hn hv hc) (by omega) (mem_kidsFrom.1 hc).2.2 hv g' hg')
    (kids n par 0).reverse ((List.reverse_perm _).nodup_iff.2 (nodup_kidsFrom 1 0)) (fun c hc => List.mem_reverse.1 hc) (fun _ => 0) (fun _ _ => rfl)
  intro y hy
  have hfold : (O n par).foldr (step par) (fun _ => 0) = step par 0 (((kids n par 0).reverse.flatMap (T n par)).foldr (step par) (fun _ => 0)) := by
    show (T n par 0).foldr (step par) (fun _ => 0) = _
    rw [hu]
    rfl
  have hlen : (T n par 0).length = ((kids n par 0).reverse.flatMap (T n par)).length + 1 := by rw [hu]; simp
  rw [hfold]
  generalize ((kids n par 0).reverse.flatMap (T n par)).foldr (step par) (fun _ => 0) = G at *
  unfold step
  rw [if_neg (by rintro ⟨h, _⟩; exact h rfl)]
  by_cases hy0 : y = 0
  · subst hy0
    rw [if_pos rfl, r2, hlen, Nat.zero_add]
  · rw [if_neg hy0]
    apply r1
    have : y ∈ T n par 0 := hy
    rw [hu] at this
    simp only [List.mem_cons] at this
    exact this.resolve_left hy0

theorem fold_drop_le (hn : 0 < n) (k y : Nat) (hy : y ∈ O n par) : ((O n par).drop k).foldr (step par) (fun _ => 0) y ≤ n := by
  have h1 := foldr_le (par := par) ((O n par).take k) (((O n par).drop k).foldr (step par) (fun _ => 0)) y
  rw [← List.foldr_append, List.take_append_drop, fold_O hn y hy] at h1
  obtain ⟨d, h⟩ := (mem_O hn).1 hy
  have h2 := pigeon n (T n par y) (nodup_T hn h) (fun x hx => O_lt (par := par) hn x (sub_O hn hy hx))
  omega

end
end Go.Proofs.Qxb6618787a.Tree
