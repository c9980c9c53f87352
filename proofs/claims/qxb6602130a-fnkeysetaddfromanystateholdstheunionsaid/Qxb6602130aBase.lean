/-
  Seat b6602130a: the small callees of the two laws over keySet: their contracts.
-/
import Derived.Test.Qxb6602130aProg
import Derived.WalkKit
import Derived.WalkSpells
import Derived.WalkLawsBesides
import Derived.Deep.OwnRows
import Derived.Maps.OwnSet
namespace Go.Proofs.Qxb6602130a
open Go.RowKit

/-- A slice of n strings at address a, in w: element i is 'ss i'. -/
def StrsAt (w : World) (a : Option Addr) (n : Nat) (ss : Nat → ByteArray) : Prop :=
  n = 0 ∨ ∃ b off, a = some ⟨b, off, none⟩ ∧ b < w.heap.size ∧ ∀ i, i < n → w.cell? ⟨b, off + i, none⟩ = some (.string (ss i))

theorem StrsAt.below {w w' : World} {B : Nat} {a : Option Addr} {n : Nat} {ss : Nat → ByteArray} (h : StrsAt w a n ss) (hb : Below B w w') (hB : w.heap.size ≤ B) : StrsAt w' a n ss := by
  rcases h with h | ⟨b, off, h1, h2, h3⟩
  · exact .inl h
  · exact .inr ⟨b, off, h1, Nat.lt_of_lt_of_le h2 hb.size, fun i hi => (hb.cell (p := ⟨b, off + i, none⟩) (by show b < B; omega)).trans (h3 i hi)⟩

theorem str_eq (a b : ByteArray) : (a.toList == b.toList) = decide (a = b) := by
  rw [ByteArray.toList_eq, ByteArray.toList_eq]
  by_cases h : a = b
  · subst h; simp
  · rw [decide_eq_false h, beq_eq_false_iff_ne]
    exact fun e => h (WideShapes.bytes_inj e)

theorem str_ne {a b : ByteArray} (h : (a.toList == b.toList) = false) : a ≠ b := by
  rw [str_eq] at h; exact of_decide_eq_false h
theorem str_same {a b : ByteArray} (h : (a.toList == b.toList) = true) : a = b := by
  rw [str_eq] at h; exact of_decide_eq_true h

/-- zzIndexOfYdB1. -/
theorem indexOf_any (a : Option Addr) (cap n : Nat) (ss : Nat → ByteArray) (k : ByteArray) (w : World) (hm : n ≤ 1048576) (hs : StrsAt w a n ss) :
    Calls Try.prog 10 #[.slice a n cap, .string k] w fun e w' => ∃ r : Int, e = .returned (.int .i64 r) ∧ ((0 ≤ r ∧ ∃ q, q < n ∧ ss q = k) ∨ (r = -1 ∧ ∀ q, q < n → ss q ≠ k)) ∧ w' = w := by
  rcases hs with rfl | ⟨b, off, rfl, hb, hc⟩
  · go_enter Try.func10, Try.ntmps10
    go_wp2
    refine wp_loop_rounds 1 ?_
    rw [rounds_succ]
    go_wp2
    go_ret
    exact ⟨-1, rfl, .inr ⟨rfl, fun q h => by omega⟩, rfl⟩
  · go_enter Try.func10, Try.ntmps10
    go_wp2
    go_loop [5] (fun i => ∃ j : Nat, j ≤ n ∧ i = .int .i64 j ∧ ∀ q, q < j → ss q ≠ k) (fun i => n - (intOf i).toNat)
    case atStart => exact ⟨0, Nat.zero_le _, rfl, fun q h => by omega⟩
    case round =>
      obtain ⟨j, hj, rfl, hq⟩ := hrel
      have hcell : j < n → w.cell? ⟨b, off + j, none⟩ = some (.string (ss j)) := fun h => hc j h
      have HQ : Hid (∀ q, q < j → ss q ≠ k) := hq
      clear hc hq
      go_wp2
      · have h1 : j < n := by assumption
        have h2 : ((ss j).toList == k.toList) = true := by assumption
        go_ret
        exact ⟨j, rfl, .inl ⟨by omega, j, h1, str_same h2⟩, rfl⟩
      · have h1 : j < n := by assumption
        have h2 : ((ss j).toList == k.toList) = false := by assumption
        go_round
        case rel => exact ⟨j + 1, by omega, by go_num, fun q hq => by
          rcases Nat.lt_or_ge q j with h | h
          · exact HQ.out q h
          · obtain rfl : q = j := by omega
            exact str_ne h2⟩
        case measure => simp [intOf]; omega
      · obtain rfl : j = n := by omega
        go_ret
        exact ⟨-1, rfl, .inr ⟨rfl, HQ.out⟩, rfl⟩

theorem indexOf_yes (a : Option Addr) (cap n : Nat) (ss : Nat → ByteArray) (k : ByteArray) (w : World) (hm : n ≤ 1048576) (hs : StrsAt w a n ss) (h : ∃ q, q < n ∧ ss q = k) :
    Calls Try.prog 10 #[.slice a n cap, .string k] w fun e w' => ∃ r : Int, e = .returned (.int .i64 r) ∧ 0 ≤ r ∧ w' = w := by
  refine (indexOf_any a cap n ss k w hm hs).mono ?_
  rintro e w' ⟨r, rfl, hr, rfl⟩
  rcases hr with hr | ⟨_, hno⟩
  · exact ⟨r, rfl, hr.1, rfl⟩
  · obtain ⟨q, hq, e⟩ := h
    exact absurd e (hno q hq)
theorem indexOf_no (a : Option Addr) (cap n : Nat) (ss : Nat → ByteArray) (k : ByteArray) (w : World) (hm : n ≤ 1048576) (hs : StrsAt w a n ss) (h : ∀ q, q < n → ss q ≠ k) :
    Calls Try.prog 10 #[.slice a n cap, .string k] w fun e w' => e = .returned (.int .i64 (-1)) ∧ w' = w := by
  refine (indexOf_any a cap n ss k w hm hs).mono ?_
  rintro e w' ⟨r, rfl, hr, rfl⟩
  rcases hr with ⟨_, q, hq, e⟩ | ⟨rfl, _⟩
  · exact absurd e (h q hq)
  · exact ⟨rfl, rfl⟩

/-- zzBytes_FnKeySetAddAnswersWhetherSeenBefore: it answers, and does nothing else. -/
theorem bytes1_any (a : Option Addr) (cap n : Nat) (ss : Nat → ByteArray) (w : World) (hm : n ≤ maxLen) (hs : StrsAt w a n ss) :
    Calls Try.prog 7 #[.slice a n cap] w fun e w' => ∃ r : Bool, e = .returned (.bool r) ∧ w' = w := by
  unfold maxLen at hm
  by_cases hbig : 1048576 < n
  · go_enter Try.func7, Try.ntmps7
    go_wp2
    go_ret
    exact ⟨_, rfl, rfl⟩
  have hsm : n ≤ 1048576 := by omega
  clear hbig hm
  rcases hs with rfl | ⟨b, off, rfl, hb, hc⟩
  · go_enter Try.func7, Try.ntmps7
    go_wp2
    refine wp_loop_rounds 1 ?_
    rw [rounds_succ]
    go_wp2
    go_ret
    exact ⟨_, rfl, rfl⟩
  · go_enter Try.func7, Try.ntmps7
    go_wp2
    go_loop [3, 4] (fun t i => ∃ (j : Nat) (z : Int), j ≤ n ∧ i = .int .i64 j ∧ t = .int .i64 z ∧ 0 ≤ z ∧ z ≤ 1048576) (fun _ i => n - (intOf i).toNat)
    case atStart => exact ⟨0, n, Nat.zero_le _, rfl, rfl, by omega, by omega⟩
    case round =>
      obtain ⟨j, z, hj, rfl, rfl, hz0, hz1⟩ := hrel
      have hcell : j < n → w.cell? ⟨b, off + j, none⟩ = some (.string (ss j)) := fun h => hc j h
      clear hc
      go_wp2
      · go_ret; simp
      · go_ret; simp
      · go_round
        case rel => exact ⟨j + 1, _, by omega, by go_num, rfl, by omega, by omega⟩
        case measure => simp [intOf]; omega
      · go_ret; simp

/-- The cells of a keySet. -/
def kc (few : Nat → ByteArray) (n : Int) (m : Option Nat) : Nat → Value := fun i => if i < 16 then .string (few i) else if i = 16 then .int .i64 n else .map m

/-- ZZB1NewKeySet. -/
theorem newKeySet_any (cs : Array Value) (hcs : cs.size = 16) (few : Nat → ByteArray) (hf : ∀ i, i < 16 → cs[i]? = some (.string (few i))) (n : Int) (m : Option Nat) (w : World) :
    Calls Try.prog 9 #[.agg cs, .int .i64 n, .map m] w fun e w' => e = .returned (.pointer (some ⟨w.heap.size + 1, 0, none⟩)) ∧ w'.rowIs (w.heap.size + 1) 60 18 (kc few n m) ∧ w'.heap.size = w.heap.size + 2 ∧ Below w.heap.size w w' := by
  have HF : Hid (∀ i, i < 16 → cs[i]? = some (.string (few i))) := hf
  clear hf
  go_enter Try.func9, Try.ntmps9
  go_wp2
  go_ret
  refine ⟨rfl, ?_, by simp, ((Below.refl _ _).alloc (Nat.le_refl _) _).alloc (by simp) _⟩
  refine ⟨_, by rw [show w.heap.size + 1 = (w.alloc (.cells cs 25)).heap.size by simp]; exact heap_alloc_new _ _, rfl, fun i hi => ?_⟩
  have h0 := HF.out 0 (by decide); have h1 := HF.out 1 (by decide); have h2 := HF.out 2 (by decide); have h3 := HF.out 3 (by decide)
  have h4 := HF.out 4 (by decide); have h5 := HF.out 5 (by decide); have h6 := HF.out 6 (by decide); have h7 := HF.out 7 (by decide)
  have h8 := HF.out 8 (by decide); have h9 := HF.out 9 (by decide); have h10 := HF.out 10 (by decide); have h11 := HF.out 11 (by decide)
  have h12 := HF.out 12 (by decide); have h13 := HF.out 13 (by decide); have h14 := HF.out 14 (by decide); have h15 := HF.out 15 (by decide)
  clear HF
  have hcase : i = 0 ∨ i = 1 ∨ i = 2 ∨ i = 3 ∨ i = 4 ∨ i = 5 ∨ i = 6 ∨ i = 7 ∨ i = 8 ∨ i = 9 ∨ i = 10 ∨ i = 11 ∨ i = 12 ∨ i = 13 ∨ i = 14 ∨ i = 15 ∨ i = 16 ∨ i = 17 := by omega
  clear hi
  rcases hcase with rfl | rfl | rfl | rfl | rfl | rfl | rfl | rfl | rfl | rfl | rfl | rfl | rfl | rfl | rfl | rfl | rfl | rfl
  · simpa [kc, hcs] using h0
  · simpa [kc, hcs] using h1
  · simpa [kc, hcs] using h2
  · simpa [kc, hcs] using h3
  · simpa [kc, hcs] using h4
  · simpa [kc, hcs] using h5
  · simpa [kc, hcs] using h6
  · simpa [kc, hcs] using h7
  · simpa [kc, hcs] using h8
  · simpa [kc, hcs] using h9
  · simpa [kc, hcs] using h10
  · simpa [kc, hcs] using h11
  · simpa [kc, hcs] using h12
  · simpa [kc, hcs] using h13
  · simpa [kc, hcs] using h14
  · simpa [kc, hcs] using h15
  · rfl
  · rfl

/-- The list's sixteen cells, written out. -/
def few16 (few : Nat → ByteArray) : Array Value := #[.string (few 0), .string (few 1), .string (few 2), .string (few 3), .string (few 4), .string (few 5), .string (few 6), .string (few 7), .string (few 8), .string (few 9), .string (few 10), .string (few 11), .string (few 12), .string (few 13), .string (few 14), .string (few 15)]
theorem few16_at (few : Nat → ByteArray) (i : Nat) (hi : i < 16) : (few16 few)[i]? = some (.string (few i)) := by
  have hcase : i = 0 ∨ i = 1 ∨ i = 2 ∨ i = 3 ∨ i = 4 ∨ i = 5 ∨ i = 6 ∨ i = 7 ∨ i = 8 ∨ i = 9 ∨ i = 10 ∨ i = 11 ∨ i = 12 ∨ i = 13 ∨ i = 14 ∨ i = 15 := by omega
  rcases hcase with rfl | rfl | rfl | rfl | rfl | rfl | rfl | rfl | rfl | rfl | rfl | rfl | rfl | rfl | rfl | rfl <;> rfl

set_option maxHeartbeats 400000 in
/-- ZZB1KeySetState. -/
theorem state_any (sb : Nat) (few : Nat → ByteArray) (n : Int) (m : Option Nat) (w : World) (hrow : w.rowIs sb 60 18 (kc few n m)) :
    Calls Try.prog 12 #[.pointer (some ⟨sb, 0, none⟩)] w fun e w' => e = .returned (.tuple #[.agg #[.string (few 0), .string (few 1), .string (few 2), .string (few 3), .string (few 4), .string (few 5), .string (few 6), .string (few 7), .string (few 8), .string (few 9), .string (few 10), .string (few 11), .string (few 12), .string (few 13), .string (few 14), .string (few 15)], .int .i64 n, .map m]) ∧ Below w.heap.size w w' := by
  have hc : ∀ i, i < 16 → w.cell? ⟨sb, i, none⟩ = some (.string (few i)) := fun i hi => by rw [hrow.cell (by omega)]; simp [kc, hi]
  have hc0 := hc 0 (by decide); have hc1 := hc 1 (by decide); have hc2 := hc 2 (by decide); have hc3 := hc 3 (by decide)
  have hc4 := hc 4 (by decide); have hc5 := hc 5 (by decide); have hc6 := hc 6 (by decide); have hc7 := hc 7 (by decide)
  have hc8 := hc 8 (by decide); have hc9 := hc 9 (by decide); have hc10 := hc 10 (by decide); have hc11 := hc 11 (by decide)
  have hc12 := hc 12 (by decide); have hc13 := hc 13 (by decide); have hc14 := hc 14 (by decide); have hc15 := hc 15 (by decide)
  have hc16 : w.cell? ⟨sb, 16, none⟩ = some (.int .i64 n) := by rw [hrow.cell (by omega)]; simp [kc]
  have hc17 : w.cell? ⟨sb, 17, none⟩ = some (.map m) := by rw [hrow.cell (by omega)]; simp [kc]
  have hlt := hrow.lt
  clear hc hrow
  go_enter Try.func12, Try.ntmps12
  go_wp2
  go_region
  go_wp2
  exact bodyPost_ret (v := .tuple #[.agg #[.string (few 0), .string (few 1), .string (few 2), .string (few 3), .string (few 4), .string (few 5), .string (few 6), .string (few 7), .string (few 8), .string (few 9), .string (few 10), .string (few 11), .string (few 12), .string (few 13), .string (few 14), .string (few 15)], .int .i64 n, .map m])
    (by simp [results, Try.results12, go_sem]) rfl ⟨rfl, ((Below.refl _ _).alloc (Nat.le_refl _) _).drew⟩

theorem Try.info9 : (Try.prog.info? 9).map (fun i => (i.zero, i.size, i.bytes)) = some (some (.string ⟨#[]⟩), 1, 16) := by kernel_rfl

theorem q22 (w : World) (a : Option Addr) (n c n' c' : Nat) : (binOp .eql 22 (.slice a n c) (.slice none n' c')).run Try.prog w = .ok (.bool a.isNone) w := Lib.run_eql_slice_nil w _ _ a n c n' c' Try.underlying22

/-- zzCloneStringsYdB1. -/
theorem clone_any (a : Option Addr) (cap n : Nat) (ss : Nat → ByteArray) (w : World) (hm : n ≤ 1048576) (hs : StrsAt w a n ss) :
    Calls Try.prog 8 #[.slice a n cap] w fun e w' => ∃ a' cap', e = .returned (.slice a' n cap') ∧ StrsAt w' a' n ss ∧ Below w.heap.size w w' := by
  have hmk := run_make_row' (P := Try.prog) 22 9 (.string ⟨#[]⟩) 16 Try.underlying22 Try.info9 rfl .i64 .i64 n (by omega) (by omega)
  have hq := q22
  rcases Nat.eq_zero_or_pos n with rfl | hpos
  · clear hs
    have hmk0 : ∀ w : World, (Instr.makeSlice 22 (.int .i64 0) (.int .i64 0)).run Try.prog w = .ok (.slice (some ⟨w.heap.size, 0, none⟩) 0 0) (w.alloc (.cells (madeCells #[.string ⟨#[]⟩] 0) 9)) := fun w => by simpa using hmk w
    clear hmk
    cases a with
    | none =>
      go_enter Try.func8, Try.ntmps8
      go_wp2
      go_ret
      exact ⟨none, 0, rfl, .inl rfl, Below.refl _ _⟩
    | some a =>
      go_enter Try.func8, Try.ntmps8
      go_wp2
      refine wp_loop_rounds 1 ?_
      rw [rounds_succ]
      go_wp2
      go_ret
      exact ⟨_, _, rfl, .inl rfl, (Below.refl _ _).alloc (Nat.le_refl _) _⟩
  · rcases hs with rfl | ⟨b, off, rfl, hb, hc⟩
    · omega
    go_enter Try.func8, Try.ntmps8
    go_wp2
    go_loopw [4] (fun i wr => ∃ j : Nat, j ≤ n ∧ i = .int .i64 j ∧ wr.rowIs w.heap.size 9 n (fun i => if i < j then .string (ss i) else .string ⟨#[]⟩) ∧ Below w.heap.size w wr) (fun i _ => n - (intOf i).toNat)
    case atStart => exact ⟨0, Nat.zero_le _, rfl, (World.rowIs_made w _ n 9).congr (fun i _ => by simp), (Below.refl _ _).alloc (Nat.le_refl _) _⟩
    case round =>
      obtain ⟨j, hj, rfl, hrow, hbel⟩ := hrel
      have hcell : j < n → wr.cell? ⟨b, off + j, none⟩ = some (.string (ss j)) := fun h => (hbel.cell (p := ⟨b, off + j, none⟩) hb).trans (hc j h)
      have hfr := hrow.frozen j
      have hlt0 := hrow.lt
      have hown : j < n → wr.cell? ⟨w.heap.size, j, none⟩ = some (.string ⟨#[]⟩) := fun h => (hrow.cell h).trans (by simp)
      clear hc
      go_wp2
      · go_roundw
        case rel => exact ⟨j + 1, by omega, by go_num, (hrow.set j (.string (ss j))).congr (fun i _ => by
          by_cases e : i = j
          · subst e; simp
          · have : (i < j + 1) = (i < j) := by simp; omega
            simp [e, this]), hbel.setCell (Nat.le_refl _) _⟩
        case measure => simp [intOf]; omega
      · obtain rfl : j = n := by omega
        go_ret
        exact ⟨_, _, rfl, .inr ⟨w.heap.size, 0, rfl, hrow.lt, fun i hi => by rw [Nat.zero_add, hrow.cell hi]; simp [hi]⟩, hbel⟩
end Go.Proofs.Qxb6602130a
