/-
  A PROOF OF 'Rows.FnCancelEndsEachOnceSaid' ('example.com/ramify/ramify/zzlaws_root_b1.FnCancelEndsEachOnce'), ITS FRAME WRITTEN BY PROGRAM (proof-skeleton.mjs, third state) off the guide's own print for that function. Not trusted: Lean checks it.
  The frame is the guide's template at this function's number and types; the walk is ours.
-/
import Derived.Test.Qxb6618787aRows
import Derived.WalkKit
import Derived.ProofKit
import Derived.OpenShut
import Derived.ShutString
import Derived.ChangeOld
import Derived.Below
import Derived.Test.Qxb6618787aPull
import Derived.LaidEqlPtr
namespace Go.Proofs.Qxb6618787a.fnCancelEndsEachOnce
open Go.ChangeShapes Go.WideShapes Go.ChangeAt Go.RowKit
open Go.ChangeMaps (open_string shut_string)
open Go.Deep Go.Proofs.Qxb6618787a.Pull
set_option linter.unusedVariables false

theorem own : ownKnob Try.prog.godebug = none := by kernel_rfl
theorem laidOut : laidOutB Try.prog = true := by kernel_rfl

/-- WHAT THE WALK IS TOLD OF A SLICE OF INTEGERS THAT CAME IN: it is nil; or it leads to a row of 'cap' cells, the numbers 'zs' (the first 'len' are its elements, the rest its spare room), each fitting its kind. -/
def IsRow (k : IntKind) (w : World) (a : Option Addr) (len cap : Nat) (zs : List Int) : Prop :=
  (a = none ∧ len = 0 ∧ cap = 0 ∧ zs = []) ∨
  ∃ x, a = some x ∧ len ≤ cap ∧ cap ≤ maxLen ∧ zs.length = cap ∧ (∀ i, i < zs.length → w.cell? (x.add i) = some (.int k (zs.getD i 0))) ∧ ∀ n ∈ zs, (Lit.int k n).wf = true

/-! ### STEP 1: THE WALK -/
set_option maxHeartbeats 2000000

theorem Try.info65 : ∃ j, Try.prog.info? 65 = some j := by
  obtain ⟨i, hi, _⟩ := Option.map_eq_some_iff.1 (show (Try.prog.info? 65).map (fun i => i.size) = some 17 by kernel_rfl)
  exact ⟨i, hi⟩

/-- Two pointers that are the same. -/
theorem neq_same (a : Addr) (w : World) : (binOp .neq 33 (.pointer (some a)) (.pointer (some a))).run Try.prog w = .ok (.bool false) w := by
  obtain ⟨j, hj⟩ := Try.info65
  have h : ∀ d : Nat, (Op.equalIn (d + 1) 33 (.pointer (some a)) (.pointer (some a))).run Try.prog w = .ok true w := fun d => by
    simp [Op.equalIn, run_underlying Try.underlying33, sizeOf, typeInfo, hj, run_sameAddr_same]
  simp only [binOp]
  simp [Op.equal, Op.maxDepth, h 9999]

theorem cell_lt {w : World} {a : Addr} {v : Value} (h : w.cell? a = some v) : a.block < w.heap.size := by
  by_cases hlt : a.block < w.heap.size
  · exact hlt
  · exfalso
    unfold World.cell? at h
    rw [Array.getElem?_eq_none (by omega)] at h
    cases h

def intN : Value → Nat | .int _ z => z.toNat | _ => 0

set_option maxRecDepth 1000000 in
theorem core (n len cap : Nat) (a : Option Addr) (xs : Nat → Int) (sent recv : Int) (w : World) (hn : n ≤ 65536) (hl : len ≤ 65536) (blk : Nat) (off : Nat) (ha : 0 < len → a = some ⟨blk, off, none⟩ ∧ blk < w.heap.size)
    (hc : ∀ i, i < len → w.cell? ⟨blk, off + i, none⟩ = some (.int .i64 (xs i))) :
    Calls Try.prog 5 #[.int .i64 (n : Int), .slice a len cap, .int .i64 sent, .int .i64 recv] w fun e w' => e = .returned (.bool true) ∧ Below w.heap.size w w' := by
  have HA : Hid (0 < len → a = some ⟨blk, off, none⟩ ∧ blk < w.heap.size) := ha
  have HC : Hid (∀ i, i < len → w.cell? ⟨blk, off + i, none⟩ = some (.int .i64 (xs i))) := hc
  clear ha hc
  have hpp := neq_same ⟨w.heap.size, 0, none⟩
  have hmk := run_make_row' (P := Try.prog) 35 37 (.pointer none) 8 Try.underlying35 info37 rfl .i64 .i64 n (by omega) (by omega)
  have hmk2 := run_make_row' (P := Try.prog) 39 4 (.bool false) 1 Try.underlying39 info4 rfl .i64 .i64 n (by omega) (by omega)
  go_enter Try.func5, Try.ntmps5
  go_wp2_with fail
  refine (bytes12 _ _ _ _ _ _ _ hl).mono ?_
  rintro e w' ⟨rfl, rfl⟩
  go_wp2_with fail
  refine (store_new _).mono ?_
  rintro e w1 ⟨rfl, c, rfl, hcs, hc14⟩
  have hS := St.start w' n sent recv c hcs hc14
  have hsz : ((w'.alloc (.cells c 65)).alloc (.cells (madeCells #[.pointer none] n) 37)).heap.size = w'.heap.size + 1 + 1 + 0 := by rw [nblk_alloc, nblk_alloc]
  clear hcs hc14
  go_wp2_with fail
  clear hmk
  go_loopw [11] (fun u11 wr => ∃ k : Nat, u11 = .int .i64 (k : Int) ∧ k ≤ n ∧ Hid (wr.heap.size = w'.heap.size + 1 + 1 + k) ∧ St w' w'.heap.size n k k sent recv (k : Int) (fun _ => false) wr)
    (fun u11 _ => n - intN u11)
  case atStart => exact ⟨0, rfl, Nat.zero_le _, hsz, hS⟩
  case round =>
    clear hS hsz
    obtain ⟨k, rfl, hk, HS, hS⟩ := hrel
    by_cases hlt : k < n
    · have hlt' : (k : Int) < (n : Int) := by omega
      obtain ⟨f, hf, f14⟩ := hS.store
      have cS : Hid (wr.cell? ⟨w'.heap.size, 14, none⟩ = some (.int .i64 (k : Int))) := by rw [Hid, hf.cell (by omega), f14]
      have fS : Hid (wr.frozen? ⟨w'.heap.size, 14, none⟩ = false) := hf.frozen 14
      clear hf f14
      go_wp2_with fail
      refine (add_core _ _ _ (by omega) (by omega) cS.out fS.out).mono ?_
      rintro e w2 ⟨rfl, rfl⟩
      have hS2 := hS.add ((k : Int) + 1)
      have HS2 : Hid ((wr.setCell ⟨w'.heap.size, 14, none⟩ (.int .i64 ((k : Int) + 1))).heap.size = w'.heap.size + 1 + 1 + k) := by rw [Hid, nblk_setCell]; exact HS.out
      clear hS HS cS fS
      generalize wr.setCell ⟨w'.heap.size, 14, none⟩ (.int .i64 ((k : Int) + 1)) = w2 at *
      go_wp2_with fail
      refine (new_core _ _ _ _).mono ?_
      rintro e w3 ⟨rfl, c, rfl, q1, q2, q3, q4⟩
      have hS3 := hS2.new HS2.out rfl c q1 q2 q3 q4
      have HS3 : Hid ((w2.alloc (.cells c 73)).heap.size = w'.heap.size + 1 + 1 + (k + 1)) := by rw [Hid, nblk_alloc, HS2.out]; omega
      rw [HS2.out]
      clear hS2 HS2 q1 q2 q3 q4
      generalize w2.alloc (.cells c 73) = w3 at *
      have cR := hS3.row.cell hlt
      have fR := hS3.row.frozen k
      have HF : Hid (St w' w'.heap.size n (k + 1) (k + 1) sent recv ((k : Int) + 1) (fun _ => false) (w3.setCell ⟨w'.heap.size + 1, k, none⟩ (.pointer (some ⟨w'.heap.size + 1 + 1 + k, 0, none⟩)))) := hS3.fill hlt
      have HS4 : Hid ((w3.setCell ⟨w'.heap.size + 1, k, none⟩ (.pointer (some ⟨w'.heap.size + 1 + 1 + k, 0, none⟩))).heap.size = w'.heap.size + 1 + 1 + (k + 1)) := by rw [Hid, nblk_setCell]; exact HS3.out
      clear hS3 HS3
      generalize w'.heap.size + 1 + 1 + k = P at *
      go_wp2
      go_roundw
      case rel => exact ⟨k + 1, by go_num, by omega, HS4, HF.out⟩
      case measure => simp [intN]; omega
    · have hkn : k = n := by omega
      subst hkn
      have hD : Hid ((wr.alloc (.cells (madeCells #[.bool false] k) 4)).rowIs (w'.heap.size + 1 + 1 + k) 4 k (fun _ => .bool false)) := by
        have := World.rowIs_made wr (.bool false) k 4
        rw [HS.out] at this
        exact this
      have hS2 : Hid (St w' w'.heap.size k k k sent recv (k : Int) (fun _ => false) (wr.alloc (.cells (madeCells #[.bool false] k) 4))) :=
        ⟨hS.below.alloc (by have := HS.out; omega) _, hS.store.of_block (blk_alloc_lt _ _ _ (by have := HS.out; omega)), hS.row.alloc _, fun j hj => (hS.pulls j hj).of_block (blk_alloc_lt _ _ _ (hS.pulls j hj).lt)⟩
      clear hS
      obtain ⟨wA, hwA⟩ : ∃ x : World, x = wr := ⟨wr, rfl⟩
      subst hwA
      go_wp2
      rw [HS.out]
      clear hmk2 HS
      obtain ⟨Dn, hDn⟩ : ∃ Dn, Dn = w'.heap.size + 1 + 1 + k := ⟨_, rfl⟩
      rw [← hDn] at hD ⊢
      have HDn : Hid (Dn = w'.heap.size + 1 + 1 + k) := hDn
      clear hDn
      go_loopw [13, 14, 15] (fun u13 u14 _ wr => ∃ (e t : Nat) (D : Nat → Bool), u13 = .int .i64 (e : Int) ∧ u14 = .int .i64 (t : Int) ∧ e ≤ t ∧ t ≤ len ∧
          wr.rowIs Dn 4 k (fun j => .bool (D j)) ∧ St w' w'.heap.size k k k sent recv ((k : Int) - (e : Int)) D wr)
        (fun _ u14 _ _ => len - intN u14)
      case atStart => exact ⟨0, 0, fun _ => false, rfl, rfl, Nat.le_refl _, Nat.zero_le _, hD.out, by have := hS2.out; rw [show (k : Int) - ((0 : Nat) : Int) = (k : Int) by omega]; exact this⟩
      case round =>
        clear hD hS2
        obtain ⟨e, t, D, rfl, rfl, het, htl, hR, hS⟩ := hrel
        by_cases htlt : t < len
        · have htlt' : (t : Int) < (len : Int) := by omega
          obtain ⟨rfl, hblk⟩ := HA.out (by omega)
          have cX : wr.cell? ⟨blk, off + t, none⟩ = some (.int .i64 (xs t)) := by rw [hS.below.cell (by exact hblk)]; exact HC.out t htlt
          generalize xs t = x at *
          by_cases hx0 : x < 0
          · go_wp2
            go_roundw
            case rel => exact ⟨e, t + 1, D, rfl, by go_num, by omega, by omega, hR, hS⟩
            case measure => simp [intN]; omega
          · by_cases hxn : (k : Int) ≤ x
            · go_wp2
              go_roundw
              case rel => exact ⟨e, t + 1, D, rfl, by go_num, by omega, by omega, hR, hS⟩
              case measure => simp [intN]; omega
            · obtain ⟨i, rfl⟩ : ∃ i : Nat, x = (i : Int) := ⟨x.toNat, by omega⟩
              have hi : i < k := by omega
              have hi' : (i : Int) < (k : Int) := by omega
              have cP : wr.cell? ⟨w'.heap.size + 1, i, none⟩ = some (.pointer (some ⟨w'.heap.size + 1 + 1 + i, 0, none⟩)) := by rw [hS.row.cell hi, if_pos hi]
              obtain ⟨P, hP⟩ : ∃ P, P = w'.heap.size + 1 + 1 + i := ⟨_, rfl⟩
              rw [← hP] at cP
              have HP : Hid (P = w'.heap.size + 1 + 1 + i) := hP
              clear hP
              have hneg : ¬ (i : Int) < 0 := hx0
              cases hDi : D i with
              | true =>
                have c2 : Hid (wr.cell? ⟨P, 2, none⟩ = some (.pointer none)) := by
                  obtain ⟨g, hg, g0, g1, g2⟩ := hS.pulls i hi
                  rw [hDi] at g2
                  rw [← HP.out] at hg
                  rw [Hid, hg.cell (by omega), g2]; rfl
                have cD : wr.cell? ⟨Dn, i, none⟩ = some (.bool true) := by rw [hR.cell hi, hDi]
                have cS : Hid (wr.cell? ⟨w'.heap.size, 14, none⟩ = some (.int .i64 ((k : Int) - (e : Int)))) := by
                  obtain ⟨f, hf, f14⟩ := hS.store
                  rw [Hid, hf.cell (by omega), f14]
                go_wp2_with fail
                refine (cancel_dead _ _ c2.out).mono ?_
                rintro e' w2 ⟨rfl, rfl⟩
                go_wp2_with fail
                refine (count_any _ _ _ cS.out).mono ?_
                rintro e' w3 ⟨rfl, rfl⟩
                go_wp2
                go_roundw
                case rel => exact ⟨e, t + 1, D, rfl, by go_num, by omega, by omega, hR, hS⟩
                case measure => simp [intN]; omega
              | false =>
                have HCn : Hid (Calls Try.prog 16 #[.pointer (some ⟨P, 0, none⟩)] wr fun e' w2 => e' = .returned (.tuple #[]) ∧ St w' w'.heap.size k k k sent recv ((k : Int) - (e : Int) - 1) (fun j => if j = i then true else D j) w2 ∧ ∀ b, b ≠ w'.heap.size → b ≠ P → w2.heap[b]? = wr.heap[b]?) :=
                  cancel_live hS i P hi HP.out hDi (by omega) (by omega)
                have HR : Hid (wr.rowIs Dn 4 k (fun j => .bool (D j))) := hR
                clear hS hR
                go_wp2_with fail
                refine HCn.out.mono ?_
                rintro e' w2 ⟨rfl, hS2, hb⟩
                have hR2 : w2.rowIs (Dn) 4 k (fun j => .bool (D j)) := HR.out.of_block (hb _ (by have := HDn.out; omega) (by have := HP.out; have := HDn.out; omega))
                have cD : w2.cell? ⟨Dn, i, none⟩ = some (.bool false) := by rw [hR2.cell hi, hDi]
                have fD := hR2.frozen i
                have HR3 : Hid ((w2.setCell ⟨Dn, i, none⟩ (.bool true)).rowIs (Dn) 4 k (fun j => .bool (if j = i then true else D j))) :=
                  (hR2.set i (.bool true)).congr (fun j _ => by split <;> rfl)
                have hblk2 : ∀ b, b ≠ Dn → (w2.setCell ⟨Dn, i, none⟩ (.bool true)).heap[b]? = w2.heap[b]? := fun b hb => blk_setCell_other _ _ _ _ hb
                have HS3 : Hid (St w' w'.heap.size k k k sent recv ((k : Int) - (e : Int) - 1) (fun j => if j = i then true else D j) (w2.setCell ⟨Dn, i, none⟩ (.bool true))) :=
                  ⟨hS2.below.setCell (by show w'.heap.size ≤ Dn; have := HDn.out; omega) _, hS2.store.of_block (hblk2 _ (by have := HDn.out; omega)), hS2.row.of_block (hblk2 _ (by have := HDn.out; omega)), fun j hj => (hS2.pulls j hj).of_block (hblk2 _ (by have := HDn.out; omega))⟩
                have cS : Hid ((w2.setCell ⟨Dn, i, none⟩ (.bool true)).cell? ⟨w'.heap.size, 14, none⟩ = some (.int .i64 ((k : Int) - ((e : Int) + 1)))) := by
                  obtain ⟨f, hf, f14⟩ := HS3.out.store
                  rw [Hid, hf.cell (by omega), f14]
                  congr 2
                  omega
                clear HCn HR hS2 hb hR2 hblk2
                go_wp2_with fail
                refine (count_any _ _ _ cS.out).mono ?_
                rintro e' w3 ⟨rfl, rfl⟩
                clear cS
                go_wp2
                go_roundw
                case rel => exact ⟨e + 1, t + 1, _, by go_num, by go_num, by omega, by omega, HR3.out, by rw [show (k : Int) - ((e + 1 : Nat) : Int) = (k : Int) - (e : Int) - 1 by omega]; exact HS3.out⟩
                case measure => simp [intN]; omega
        · have htl2 : t = len := by omega
          subst htl2
          obtain ⟨wB, hwB⟩ : ∃ x : World, x = wr := ⟨wr, rfl⟩
          subst hwB
          have HR : Hid (wB.rowIs Dn 4 k (fun j => .bool (D j))) := hR
          have HS : Hid (St w' w'.heap.size k k k sent recv ((k : Int) - (e : Int)) D wB) := hS
          clear hR hS HA HC
          go_wp2
          go_loopw [16, 17, 18, 19] (fun u16 _ _ _ wr => ∃ m : Nat, u16 = .int .i64 (m : Int) ∧ m ≤ k ∧ wr.rowIs Dn 4 k (fun j => .bool (D j)) ∧ St w' w'.heap.size k k k sent recv ((k : Int) - (e : Int)) D wr)
            (fun u16 _ _ _ _ => k - intN u16)
          case atStart => exact ⟨0, rfl, Nat.zero_le _, HR.out, HS.out⟩
          case round =>
            clear HR HS
            obtain ⟨m, rfl, hm, hR, hS⟩ := hrel
            by_cases hmk : m < k
            · have hmk' : (m : Int) < (k : Int) := by omega
              have cP : wr.cell? ⟨w'.heap.size + 1, m, none⟩ = some (.pointer (some ⟨w'.heap.size + 1 + 1 + m, 0, none⟩)) := by rw [hS.row.cell hmk, if_pos hmk]
              have hP := hS.pulls m hmk
              generalize w'.heap.size + 1 + 1 + m = P at *
              obtain ⟨g, hg, g0, g1, g2⟩ := hP
              have c0 : Hid (wr.cell? ⟨P, 0, none⟩ = some (.int .i64 sent)) := by rw [Hid, hg.cell (by omega), g0]
              have c1 : Hid (wr.cell? ⟨P, 1, none⟩ = some (.int .i64 recv)) := by rw [Hid, hg.cell (by omega), g1]
              have cD : wr.cell? ⟨Dn, m, none⟩ = some (.bool (D m)) := hR.cell hmk
              have HR : Hid (wr.rowIs Dn 4 k (fun j => .bool (D j))) := hR
              have HS : Hid (St w' w'.heap.size k k k sent recv ((k : Int) - (e : Int)) D wr) := hS
              clear hR hS g0 g1
              cases hD : D m with
              | true =>
                rw [hD] at g2 cD
                have c2 : Hid (wr.cell? ⟨P, 2, none⟩ = some (.pointer none)) := by rw [Hid, hg.cell (by omega), g2]; rfl
                clear hg g2
                go_wp2_with fail
                refine (store_any _ _ _ c2.out).mono ?_
                rintro e' w2 ⟨rfl, rfl⟩
                go_wp2_with fail
                refine (traffic_any _ _ _ _ c0.out c1.out).mono ?_
                rintro e' w3 ⟨rfl, q, rfl⟩
                go_wp2
                go_roundw
                case rel => exact ⟨m + 1, by go_num, by omega, HR.out.of_block (by rw [heap_drewN]), HS.out.drewN q⟩
                case measure => simp [intN]; omega
              | false =>
                rw [hD] at g2 cD
                have c2 : Hid (wr.cell? ⟨P, 2, none⟩ = some (.pointer (some ⟨w'.heap.size, 0, none⟩))) := by rw [Hid, hg.cell (by omega), g2]; rfl
                clear hg g2
                go_wp2_with fail
                refine (store_any _ _ _ c2.out).mono ?_
                rintro e' w2 ⟨rfl, rfl⟩
                go_wp2_with fail
                refine (traffic_any _ _ _ _ c0.out c1.out).mono ?_
                rintro e' w3 ⟨rfl, q, rfl⟩
                go_wp2
                go_roundw
                case rel => exact ⟨m + 1, by go_num, by omega, HR.out.of_block (by rw [heap_drewN]), HS.out.drewN q⟩
                case measure => simp [intN]; omega
            · have hmk2 : m = k := by omega
              subst hmk2
              have cS : Hid (wr.cell? ⟨w'.heap.size, 14, none⟩ = some (.int .i64 ((m : Int) - (e : Int)))) := by
                obtain ⟨f, hf, f14⟩ := hS.store
                rw [Hid, hf.cell (by omega), f14]
              have HB : Hid (Below w'.heap.size w' wr) := hS.below
              clear hR hS
              go_wp2_with fail
              refine (count_any _ _ _ cS.out).mono ?_
              rintro e' w2 ⟨rfl, rfl⟩
              go_wp2
              go_ret
              exact ⟨rfl, HB.out⟩

theorem walk (a0 : Int) (a1 : Option Addr) (len1 cap1 : Nat) (z1 : List Int) (a2 : Int) (a3 : Int) (w : World) (w0 : (Lit.int .i64 a0).wf = true) (w1 : IsRow .i64 w a1 len1 cap1 z1) (w2 : (Lit.int .i64 a2).wf = true) (w3 : (Lit.int .i64 a3).wf = true) :
    Calls Try.prog 5 #[.int .i64 a0, .slice a1 len1 cap1, .int .i64 a2, .int .i64 a3] w fun e w' => e = .returned (.bool true) ∧ Below w.heap.size w w' := by
  have hm : len1 ≤ 9223372036854775807 := by
    rcases w1 with ⟨_, rfl, _, _⟩ | ⟨x, _, h1, h2, _⟩
    · omega
    · unfold maxLen at h2; omega
  by_cases hbig : 1048576 < len1
  · clear w0 w1 w2 w3
    go_enter Try.func5, Try.ntmps5
    go_wp2
    go_ret
    exact ⟨rfl, Below.refl _ _⟩
  · by_cases hneg : a0 < 0
    · clear w0 w1 w2 w3
      go_enter Try.func5, Try.ntmps5
      go_wp2
      go_ret
      exact ⟨rfl, Below.refl _ _⟩
    · by_cases hmany : 65536 < a0
      · clear w0 w1 w2 w3
        go_enter Try.func5, Try.ntmps5
        go_wp2
        go_ret
        exact ⟨rfl, Below.refl _ _⟩
      · by_cases hb2 : 65536 < len1
        · clear w0 w1 w2 w3
          go_enter Try.func5, Try.ntmps5
          go_wp2
          go_ret
          exact ⟨rfl, Below.refl _ _⟩
        · obtain ⟨n, rfl⟩ : ∃ n : Nat, a0 = (n : Int) := ⟨a0.toNat, by omega⟩
          rcases w1 with ⟨rfl, rfl, rfl, _⟩ | ⟨x, rfl, hl, _, hz, hcell, _⟩
          · exact core n 0 0 none (fun _ => 0) a2 a3 w (by omega) (by omega) 0 0 (fun h => absurd h (Nat.lt_irrefl 0)) (fun i hi => absurd hi (Nat.not_lt_zero i))
          · by_cases h0 : len1 = 0
            · subst h0
              exact core n 0 cap1 (some x) (fun _ => 0) a2 a3 w (by omega) (by omega) 0 0 (fun h => absurd h (Nat.lt_irrefl 0)) (fun i hi => absurd hi (Nat.not_lt_zero i))
            · obtain ⟨s, off, spot⟩ := x
              have hspot : spot = none := by simpa [Addr.add] using World.cell?_spot (hcell 0 (by omega))
              subst hspot
              have hc : ∀ i, i < len1 → w.cell? ⟨s, off + i, none⟩ = some (.int .i64 ((fun i => z1.getD i 0) i)) := fun i hi => by
                rw [← add_plain]; exact hcell i (by omega)
              exact core n len1 cap1 _ (fun i => z1.getD i 0) a2 a3 w (by omega) (by omega) s off (fun _ => ⟨rfl, cell_lt (hc 0 (by omega))⟩) hc

/-! ### THE ROW's STEP: WRITTEN OUT: LEAVE IT -/
set_option maxRecDepth 100000 in
theorem lifted (os : Os) (started : os.Started) (H : Type) (enc : TypeId × Value → H) :
    ReturnsInHanded {} Try.checked os 5 .any (Rows.fnCancelEndsEachOnceSpec.pre6 enc Try.prog Try.f5 Rows.fnCancelEndsEachOnceRow.domain false) (Rows.fnCancelEndsEachOnceSpec.post enc Try.prog Try.f5 false true false false) := by
  refine returnsInHanded_of_change (C := Try.checked) own started (by kernel_rfl) Try.func5
    (ChangeSpec.witness6 (enc := enc) (C := Try.checked) false ⟨#[], #[.int .i64 0, .slice none 0 0, .int .i64 0, .int .i64 0], []⟩ 8 (by kernel_rfl) (by kernel_rfl) (by kernel_rfl) (by kernel_rfl)) ?_
  intro W base args ds gs before hval0 hW hcnd _
  have hval : ∀ (j : Nat) t v, Try.f5.params[j]? = some t → args[j]? = some v → Value.okWide Try.prog W .any base t v := hval0
  have hW' := hW
  obtain ⟨p, q, hA0, hV, rfl, hfz, hnd⟩ := hW
  have hA : DataW.TrodAll enc Try.prog W 0 (fun _ => true) true Try.f5.params.toList args.toList ds p := hA0
  rw [Try.params5] at hA hval
  obtain ⟨v0, vs0, d0, ds0, p0, q0, hargs, rfl, rfl, h0, r0⟩ := trodAll_cons hA
  obtain ⟨v1, vs1, d1, ds1, p1, q1, rfl, rfl, rfl, h1, r1⟩ := trodAll_cons r0
  obtain ⟨v2, vs2, d2, ds2, p2, q2, rfl, rfl, rfl, h2, r2⟩ := trodAll_cons r1
  obtain ⟨v3, vs3, d3, ds3, p3, q3, rfl, rfl, rfl, h3, r3⟩ := trodAll_cons r2
  obtain ⟨rfl, rfl, rfl⟩ := trodAll_nil r3
  obtain rfl : args = #[v0, v1, v2, v3] := by cases args; simp_all
  obtain ⟨rfl, rfl⟩ := trodVars_none hV
  obtain ⟨a0, rfl, rfl, rfl, w0⟩ := open_int Try.underlying3 (hval 0 3 v0 rfl rfl) h0
  obtain ⟨a1, len1, cap1, rfl⟩ := okWide_slice Try.underlying22 (hval 1 22 v1 rfl rfl)
  have k1 := h1
  have lt1 : ∀ x ∈ p1, x.block < W.heap.size := by obtain ⟨m, hm⟩ := k1; exact DataW.trod_lt m _ _ _ hm
  obtain ⟨z1, w1⟩ : ∃ zs, IsRow .i64 W a1 len1 cap1 zs := by
    obtain ⟨fuel, hf⟩ := h1
    rcases open_ints Try.underlying22 Try.underlying3 (by kernel_rfl) hf with ⟨hcs, _⟩ | ⟨x, l, c, zs, hcs, _, hl, hm, hz, _, hcell, hwz⟩
    · simp [Value.cells] at hcs
      obtain ⟨rfl, rfl, rfl⟩ := hcs
      exact ⟨[], .inl ⟨rfl, rfl, rfl, rfl⟩⟩
    · simp [Value.cells] at hcs
      obtain ⟨rfl, rfl, rfl⟩ := hcs
      exact ⟨zs, .inr ⟨_, rfl, hl, hm, by simpa using hz, hcell, hwz⟩⟩
  obtain ⟨a2, rfl, rfl, rfl, w2⟩ := open_int Try.underlying3 (hval 2 3 v2 rfl rfl) h2
  obtain ⟨a3, rfl, rfl, rfl, w3⟩ := open_int Try.underlying3 (hval 3 3 v3 rfl rfl) h3
  clear hA0 hval0
  refine (walk a0 a1 len1 cap1 z1 a2 a3 W w0 w1 w2 w3).mono fun e W' ⟨he, bel⟩ => ?_
  subst he
  exact ⟨_, rfl, _, _, _, [], _, [], hW', trodAll_mk1 (shut_bool Try.underlying4 _), (trodAll_cons_mk (shut_int Try.underlying3 w0) (trodAll_cons_mk (Below.trod laidOut (by kernel_rfl) (of_decide_eq_true (by kernel_rfl)) k1 bel lt1) (trodAll_cons_mk (shut_int Try.underlying3 w2) (trodAll_cons_mk (shut_int Try.underlying3 w3) trodAll_mk0)))), rfl, bel.frame _, fun h => by cases h⟩

theorem over : Rows.fnCancelEndsEachOnceRow.holds Try.pinned (OpenSpec.ofChange Rows.fnCancelEndsEachOnceSpec) :=
  OpenClaim.holds_of_wide 5 Try.f5 rfl rfl rfl rfl rfl rfl rfl ⟨rfl, rfl, rfl, rfl, rfl⟩ rfl rfl rfl rfl rfl (by kernel_rfl) Try.func5 (by kernel_rfl)
    (of_decide_eq_true (by kernel_rfl)) (by unfold Func.isWrapper; first | (rw [if_pos (by decide +kernel)]; kernel_rfl) | (rw [if_neg (by decide +kernel)]; exact ⟨rfl, rfl⟩))
    (fun os started H enc _ => lifted os started H enc)

/-- ████ THE STATEMENT ████ -/
theorem proved : Rows.FnCancelEndsEachOnceSaid := over
#print axioms proved
end Go.Proofs.Qxb6618787a.fnCancelEndsEachOnce
