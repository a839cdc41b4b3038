/-
  THE CALLEES OF BOTH LAWS: 'lower', 'ZZlower', 'zzIsASCIILetter': each computes a plain function of its octet.
-/
import Derived.Test.Qxb6619535aRows
import Derived.WalkKit
import Derived.ProofKit
import Derived.OpenShut
import Derived.WalkSpells
import Derived.WalkLawsBesides
namespace Go.Proofs.Qxb6619535a
open Go.RowKit

/-- 'lower': an ASCII capital made small. -/
def lowV (c : Int) : Int := if 65 ≤ c ∧ c ≤ 90 then c + 32 else c

/-- 'zzIsASCIILetter'. -/
def letB (c : Int) : Bool := decide (65 ≤ c ∧ c ≤ 90) || decide (97 ≤ c ∧ c ≤ 122)

theorem ret_int {k : IntKind} {a b : Int} (h : a = b) : Ending.returned (.int k a) = .returned (.int k b) := by rw [h]
theorem ret_bool {a b : Bool} (h : a = b) : Ending.returned (.bool a) = .returned (.bool b) := by rw [h]

theorem lower_any (c : Int) (w : World) (h0 : 0 ≤ c) (h1 : c ≤ 255) :
    Calls Try.prog 9 #[.int .u8 c] w fun e w' => e = .returned (.int .u8 (lowV c)) ∧ w' = w := by
  by_cases ha : 65 ≤ c
  · by_cases hb : c ≤ 90
    · have HL : lowV c = c + 97 - 65 := by unfold lowV; rw [if_pos ⟨ha, hb⟩]; omega
      have H : Hid (lowV c = c + 97 - 65) := HL
      clear HL
      go_enter Try.func9, Try.ntmps9
      go_wp2
      go_ret
      exact ⟨ret_int H.out.symm, rfl⟩
    · have HL : lowV c = c := by unfold lowV; rw [if_neg (by omega)]
      have H : Hid (lowV c = c) := HL
      clear HL
      go_enter Try.func9, Try.ntmps9
      go_wp2
      go_ret
      exact ⟨ret_int H.out.symm, rfl⟩
  · have HL : lowV c = c := by unfold lowV; rw [if_neg (by omega)]
    have H : Hid (lowV c = c) := HL
    clear HL
    go_enter Try.func9, Try.ntmps9
    go_wp2
    go_ret
    exact ⟨ret_int H.out.symm, rfl⟩

theorem zzlower_any (c : Int) (w : World) (h0 : 0 ≤ c) (h1 : c ≤ 255) :
    Calls Try.prog 5 #[.int .u8 c] w fun e w' => e = .returned (.int .u8 (lowV c)) ∧ w' = w := by
  go_enter Try.func5, Try.ntmps5
  go_wp2_with (go_at_call 9; refine (lower_any _ _ h0 h1).mono ?_; rintro e w' ⟨rfl, rfl⟩)
  go_ret
  exact ⟨rfl, rfl⟩

/-- A fact of every octet, held one by one. -/
theorem oct_all (P : Int → Bool) (h : (List.range 256).all (fun n => P (n : Nat)) = true) (c : Int) (h0 : 0 ≤ c) (h1 : c ≤ 255) : P c = true := by
  have := List.all_eq_true.1 h c.toNat (List.mem_range.2 (by omega))
  rwa [show ((c.toNat : Nat) : Int) = c by omega] at this

theorem or_letter (c : Int) (h0 : 0 ≤ c) (h1 : c ≤ 255) :
    (decide (97 ≤ bits .or .u8 c 32) && decide (bits .or .u8 c 32 ≤ 122)) = letB c := by
  have := oct_all (fun c => (decide (97 ≤ bits .or .u8 c 32) && decide (bits .or .u8 c 32 ≤ 122)) == letB c) (by decide +kernel) c h0 h1
  exact eq_of_beq this

theorem letter_any (c : Int) (w : World) (h0 : 0 ≤ c) (h1 : c ≤ 255) :
    Calls Try.prog 6 #[.int .u8 c] w fun e w' => e = .returned (.bool (letB c)) ∧ w' = w := by
  have H : Hid ((decide (97 ≤ bits .or .u8 c 32) && decide (bits .or .u8 c 32 ≤ 122)) = letB c) := or_letter c h0 h1
  go_enter Try.func6, Try.ntmps6
  go_wp2
  · go_ret
    exact ⟨ret_bool (by rw [← H.out]; simp_all), rfl⟩
  · go_ret
    exact ⟨ret_bool (by rw [← H.out]; rw [decide_eq_false (by omega)]; rfl), rfl⟩

theorem xor_letter (c : Int) (h0 : 0 ≤ c) (h1 : c ≤ 255) (hl : letB c = true) :
    (65 ≤ c ∧ c ≤ 90 ∧ bits .xor .u8 c 32 = c + 32) ∨ (97 ≤ c ∧ c ≤ 122 ∧ bits .xor .u8 c 32 = c - 32) := by
  have := oct_all (fun c => !letB c || (decide (65 ≤ c) && decide (c ≤ 90) && decide (bits .xor .u8 c 32 = c + 32)) || (decide (97 ≤ c) && decide (c ≤ 122) && decide (bits .xor .u8 c 32 = c - 32))) (by decide +kernel) c h0 h1
  simp only [hl, Bool.or_eq_true, Bool.and_eq_true, decide_eq_true_eq, Bool.not_true, Bool.false_eq_true, false_or] at this
  rcases this with ⟨⟨a, b⟩, c⟩ | ⟨⟨a, b⟩, c⟩
  · exact Or.inl ⟨a, b, c⟩
  · exact Or.inr ⟨a, b, c⟩

/-- 'c ^ d == k' is 'd == c ^ k' on octets. -/
theorem xor_eq (c d k : Int) (k0 : 0 ≤ d) (k1 : d ≤ 255) (m0 : 0 ≤ k) (m1 : k ≤ 255) :
    bits .xor .u8 c d = k ↔ d = bits .xor .u8 c k := by
  have e : ∀ x y : Int, bits .xor .u8 x y = ((BitVec.ofInt 8 x ^^^ BitVec.ofInt 8 y).toNat : Int) := by
    intro x y
    have hlt := (BitVec.ofInt 8 x ^^^ BitVec.ofInt 8 y).isLt
    show IntKind.wrap .u8 ((BitVec.ofInt 8 x ^^^ BitVec.ofInt 8 y).toNat : Int) = _
    generalize (BitVec.ofInt 8 x ^^^ BitVec.ofInt 8 y).toNat = n at hlt
    simp [IntKind.wrap, IntKind.bits, IntKind.signed]
    omega
  have back : ∀ x : Int, 0 ≤ x → x ≤ 255 → ((BitVec.ofInt 8 x).toNat : Int) = x := by
    intro x a b
    rw [BitVec.toNat_ofInt]
    omega
  rw [e, e]
  constructor
  · intro h
    have h2 : BitVec.ofInt 8 c ^^^ BitVec.ofInt 8 d = BitVec.ofInt 8 k := by
      apply BitVec.eq_of_toNat_eq
      have := back k m0 m1
      omega
    rw [← h2, ← BitVec.xor_assoc, BitVec.xor_self, BitVec.zero_xor, back d k0 k1]
  · intro h
    have h2 : BitVec.ofInt 8 d = BitVec.ofInt 8 c ^^^ BitVec.ofInt 8 k := by
      apply BitVec.eq_of_toNat_eq
      have := back d k0 k1
      omega
    rw [h2, ← BitVec.xor_assoc, BitVec.xor_self, BitVec.zero_xor, back k m0 m1]

theorem letB_iff (c : Int) : letB c = true ↔ (65 ≤ c ∧ c ≤ 90) ∨ (97 ≤ c ∧ c ≤ 122) := by
  unfold letB
  simp only [Bool.or_eq_true, decide_eq_true_eq]

theorem low_or (c : Int) : (65 ≤ c ∧ c ≤ 90 ∧ lowV c = c + 32) ∨ ((c < 65 ∨ 90 < c) ∧ lowV c = c) := by
  unfold lowV
  split <;> omega

/-- THE PLAIN LAW on two octets: they fold alike exactly where they are one, or the two cases of one letter. -/
theorem pair (c d : Int) (h0 : 0 ≤ c) (h1 : c ≤ 255) (k0 : 0 ≤ d) (k1 : d ≤ 255) :
    lowV c = lowV d ↔ (c = d ∨ (bits .xor .u8 c d = 32 ∧ letB c = true)) := by
  rw [xor_eq c d 32 k0 k1 (by omega) (by omega)]
  have hc := low_or c
  have hd := low_or d
  by_cases hl : letB c = true
  · have hx := xor_letter c h0 h1 hl
    simp only [hl, and_true]
    omega
  · have hn : ¬ ((65 ≤ c ∧ c ≤ 90) ∨ (97 ≤ c ∧ c ≤ 122)) := fun h => hl ((letB_iff c).2 h)
    have hz : (c = d ∨ (d = bits .xor .u8 c 32 ∧ letB c = true)) ↔ c = d := ⟨fun h => h.elim id (fun h => (hl h.2).elim), Or.inl⟩
    rw [hz]
    omega

theorem low_bd (c : Int) (h0 : 0 ≤ c) (h1 : c ≤ 255) : 0 ≤ lowV c ∧ lowV c ≤ 255 := by
  have hc := low_or c
  omega

end Go.Proofs.Qxb6619535a
