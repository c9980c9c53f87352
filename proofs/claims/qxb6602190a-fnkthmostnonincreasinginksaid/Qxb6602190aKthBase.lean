/-
  Seat b6602190a: the small callees of the two laws over kthMost: zzBytes (6, 10), cloneInt64s (7), registerOf (8).
-/
import Derived.Test.Qxb6602190aRegWalk
namespace Go.Proofs.Qxb6602190a
open Go.RowKit

/-- A slice of n int64s at address a. -/
def IntsAt (w : World) (a : Option Addr) (n : Nat) (ss : Nat → Int) : Prop :=
  n = 0 ∨ ∃ b off, a = some ⟨b, off, none⟩ ∧ b < w.heap.size ∧ ∀ i, i < n → w.cell? ⟨b, off + i, none⟩ = some (.int .i64 (ss i))

def BoolPost (w : World) (e : Ending) (w' : World) : Prop := ∃ r : Bool, e = .returned (.bool r) ∧ w' = w

theorem bytes6_any (a : Option Addr) (cap n : Nat) (k : Int) (w : World) (hm : n ≤ maxLen) :
    Calls Try.prog 6 #[.slice a n cap, .int .i64 k] w (BoolPost w) := by
  unfold maxLen at hm
  by_cases hbig : 1048576 < n
  · go_enter Try.func6, Try.ntmps6
    go_wp2
    go_ret
    exact ⟨false, rfl, rfl⟩
  · have hsm : n ≤ 1048576 := by omega
    clear hbig hm
    go_enter Try.func6, Try.ntmps6
    go_wp2
    go_ret
    exact ⟨true, rfl, rfl⟩

theorem bytes10_any (a : Option Addr) (cap n : Nat) (k : Int) (w : World) (hm : n ≤ maxLen) :
    Calls Try.prog 10 #[.slice a n cap, .int .i64 k] w (BoolPost w) := by
  unfold maxLen at hm
  by_cases hbig : 1048576 < n
  · go_enter Try.func10, Try.ntmps10
    go_wp2
    go_ret
    exact ⟨false, rfl, rfl⟩
  · have hsm : n ≤ 1048576 := by omega
    clear hbig hm
    go_enter Try.func10, Try.ntmps10
    go_wp2
    go_ret
    exact ⟨true, rfl, rfl⟩

theorem q22 (w : World) (a : Option Addr) (n c n' c' : Nat) : (binOp .eql 22 (.slice a n c) (.slice none n' c')).run Try.prog w = .ok (.bool a.isNone) w := Lib.run_eql_slice_nil w _ _ a n c n' c' Try.underlying22
theorem Try.info2 : (Try.prog.info? 2).map (fun i => (i.zero, i.size, i.bytes)) = some (some (.int .i64 0), 1, 8) := by kernel_rfl

/-- cloneInt64s. -/
theorem clone7_any (b off cap n : Nat) (ss : Nat → Int) (w : World) (hm : n ≤ 1048576) (hpos : 0 < n) (hb : b < w.heap.size) (hc : ∀ i, i < n → w.cell? ⟨b, off + i, none⟩ = some (.int .i64 (ss i))) :
    Calls Try.prog 7 #[.slice (some ⟨b, off, none⟩) n cap] w fun e w' => e = .returned (.slice (some ⟨w.heap.size, 0, none⟩) n n) ∧ w'.rowIs w.heap.size 2 n (fun i => .int .i64 (ss i)) ∧ Below w.heap.size w w' := by
  have hmk := run_make_row' (P := Try.prog) 22 2 (.int .i64 0) 8 Try.underlying22 Try.info2 rfl .i64 .i64 n (by omega) (by omega)
  have hq := q22
  go_enter Try.func7, Try.ntmps7
  go_wp2
  go_loopw [4] (fun i wr => ∃ j : Nat, j ≤ n ∧ i = .int .i64 j ∧ wr.rowIs w.heap.size 2 n (fun i => if i < j then .int .i64 (ss i) else .int .i64 0) ∧ Below w.heap.size w wr) (fun i _ => n - (intOf i).toNat)
  case atStart => exact ⟨0, Nat.zero_le _, rfl, (World.rowIs_made w _ n 2).congr (fun i _ => by simp), (Below.refl _ _).alloc (Nat.le_refl _) _⟩
  case round =>
    obtain ⟨j, hj, rfl, hrow, hbel⟩ := hrel
    have hcell : j < n → wr.cell? ⟨b, off + j, none⟩ = some (.int .i64 (ss j)) := fun h => (hbel.cell (p := ⟨b, off + j, none⟩) hb).trans (hc j h)
    have hfr := hrow.frozen j
    have hlt0 := hrow.lt
    have hown : j < n → wr.cell? ⟨w.heap.size, j, none⟩ = some (.int .i64 0) := fun h => (hrow.cell h).trans (by simp)
    clear hc
    go_wp2
    · go_roundw
      case rel => exact ⟨j + 1, by omega, by go_num, (hrow.set j (.int .i64 (ss j))).congr (fun i _ => by
        by_cases e : i = j
        · subst e; simp
        · have : (i < j + 1) = (i < j) := by simp; omega
          simp [e, this]), hbel.setCell (Nat.le_refl _) _⟩
      case measure => simp [intOf]; omega
    · obtain rfl : j = n := by omega
      go_ret
      exact ⟨rfl, hrow.congr (fun i hi => by simp [hi]), hbel⟩

/-- registerOf, forwards. -/
theorem registerOf_any (b cap n : Nat) (ss : Nat → Int) (w : World) (hn : n ≤ 131072) (hrow : w.rowIs b 2 n (fun i => .int .i64 (ss i))) :
    Calls Try.prog 8 #[.slice (some ⟨b, 0, none⟩) n cap, .bool false] w fun e w' => e = .returned (.pointer (some ⟨w.heap.size, 0, none⟩)) ∧ RegAt (w.alloc (.cells #[.slice none 0 0, .int .i64 0] 36)) w' w.heap.size w.heap.size ss n 0 := by
  have hrg := reg_new w ss
  have hb := hrow.lt
  have hl3 : w.heap.size < (w.alloc (.cells #[.slice none 0 0, .int .i64 0] 36)).heap.size := by simp
  go_enter Try.func8, Try.ntmps8
  go_wp2
  go_loopw [7] (fun i wr => ∃ k : Nat, k ≤ n ∧ i = .int .i64 k ∧ RegAt (w.alloc (.cells #[.slice none 0 0, .int .i64 0] 36)) wr w.heap.size w.heap.size ss k 0) (fun i _ => n - (intOf i).toNat)
  case atStart => exact ⟨0, Nat.zero_le _, rfl, hrg⟩
  case round =>
    clear hrg
    obtain ⟨k, hk, rfl, v, cbs, hr, hlt, hkp⟩ := hrel
    by_cases hkn : k < n
    · have hBr : w.heap.size ≤ wr.heap.size := by have := hkp.size; omega
      have e0 : wr.cell? ⟨b, k, none⟩ = some (.int .i64 (ss k)) := ((hkp.cell (a := ⟨b, k, none⟩) (by show b < _; omega) (by show ¬ w.heap.size ≤ b; omega)).trans (World.cell?_alloc_old _ _ _ (by show b ≠ _; omega))).trans (hrow.cell hkn)
      have H14 := add_next w.heap.size w.heap.size k 0 v cbs ss ⟨#[]⟩ 0 wr hr hlt (by omega) (by simp [ByteArray.size]) hBr
      go_wp2_with (go_at_call 14; refine H14.mono ?_; rintro e w3 ⟨rfl, hrg3⟩)
      obtain ⟨v3, cbs3, hr3, hlt3, hk3⟩ := hrg3
      go_roundw
      case rel => exact ⟨k + 1, by omega, by go_num, v3, cbs3, hr3, hlt3, hkp.trans hk3 (fun _ _ e => e)⟩
      case measure => simp [intOf]; omega
    · obtain rfl : k = n := by omega
      go_wp2
      go_ret
      exact ⟨rfl, v, cbs, hr, hlt, hkp⟩
end Go.Proofs.Qxb6602190a
