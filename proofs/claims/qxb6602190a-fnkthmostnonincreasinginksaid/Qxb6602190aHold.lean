/-
  Seat b6602190a: a slice of holders (structs of three cells): zzBytes and cloneHolders.
-/
import Derived.Test.Qxb6602190aBuild
import Derived.Deep.OwnRows
import Derived.Below
namespace Go.Proofs.Qxb6602190a
open Go.RowKit

/-- A slice of n holders at address a: holder i's code, shares, subscribed. -/
def HoldAt (w : World) (a : Option Addr) (n : Nat) (cs : Nat → ByteArray) (ss tt : Nat → Int) : Prop :=
  n = 0 ∨ ∃ b off, a = some ⟨b, off, none⟩ ∧ b < w.heap.size ∧ ∀ i, i < n → w.cell? ⟨b, off + i * 3, none⟩ = some (.string (cs i)) ∧ w.cell? ⟨b, off + i * 3 + 1, none⟩ = some (.int .i64 (ss i)) ∧ w.cell? ⟨b, off + i * 3 + 2, none⟩ = some (.int .i64 (tt i))

/-- What zzBytes answers. -/
def Small (n : Nat) (cs : Nat → ByteArray) (r : Bool) : Prop := r = true → ∀ i, i < n → (cs i).size ≤ 1048576

def BytesPost (n : Nat) (cs : Nat → ByteArray) (w : World) (e : Ending) (w' : World) : Prop := ∃ r : Bool, e = .returned (.bool r) ∧ w' = w ∧ Small n cs r

/-- zzBytes_FnRegisterAddKeepsEveryHolder. -/
theorem bytes11_any (a : Option Addr) (cap n : Nat) (cs : Nat → ByteArray) (ss tt : Nat → Int) (w : World) (hm : n ≤ maxLen) (hs : HoldAt w a n cs ss tt) (hsz : ∀ i, i < n → (cs i).size ≤ maxLen) :
    Calls Try.prog 11 #[.slice a n cap] w (BytesPost n cs w) := by
  unfold maxLen at hm hsz
  by_cases hbig : 1048576 < n
  · go_enter Try.func11, Try.ntmps11
    go_wp2
    go_ret
    exact ⟨false, rfl, rfl, fun h => by cases h⟩
  have hsm : n ≤ 1048576 := by omega
  clear hbig hm
  rcases hs with rfl | ⟨b, off, rfl, hb, hc⟩
  · go_enter Try.func11, Try.ntmps11
    go_wp2
    refine wp_loop_rounds 1 ?_
    rw [rounds_succ]
    go_wp2
    go_ret
    exact ⟨true, rfl, rfl, fun _ i h => by omega⟩
  · go_enter Try.func11, Try.ntmps11
    go_wp2
    go_loop [3, 4] (fun t i => ∃ (j : Nat) (z : Int), j ≤ n ∧ i = .int .i64 j ∧ t = .int .i64 z ∧ 0 ≤ z ∧ z ≤ 1048576 ∧ Small j cs true) (fun _ i => n - (intOf i).toNat)
    case atStart => exact ⟨0, n, Nat.zero_le _, rfl, rfl, by omega, by omega, fun _ i h => by omega⟩
    case round =>
      obtain ⟨j, z, hj, rfl, rfl, hz0, hz1, hsmall⟩ := hrel
      have hcell : j < n → w.cell? ⟨b, off + j * 3, none⟩ = some (.string (cs j)) := fun h => (hc j h).1
      have hsj := hsz j
      clear hc hsz
      go_wp2
      · go_ret
        exact ⟨false, rfl, rfl, fun h => by cases h⟩
      · go_ret
        exact ⟨false, rfl, rfl, fun h => by cases h⟩
      · go_round
        case rel =>
          refine ⟨j + 1, _, by omega, by go_num, rfl, by omega, by omega, fun _ i hi => ?_⟩
          by_cases e : i = j
          · subst e; omega
          · exact hsmall rfl i (by omega)
        case measure => simp [intOf]; omega
      · obtain rfl : j = n := by omega
        go_ret
        exact ⟨true, rfl, rfl, hsmall⟩

theorem q29 (w : World) (a : Option Addr) (n c n' c' : Nat) : (binOp .eql 29 (.slice a n c) (.slice none n' c')).run Try.prog w = .ok (.bool a.isNone) w := Lib.run_eql_slice_nil w _ _ a n c n' c' Try.underlying29
theorem Try.info32 : (Try.prog.info? 32).map (fun i => (i.zero, i.size, i.bytes)) = some (some (.agg #[.string ⟨#[]⟩, .int .i64 0, .int .i64 0]), 3, 32) := by kernel_rfl

/-- The first j holders lie in the new block N. -/
def ClonedTo (w wr : World) (N n j : Nat) (cs : Nat → ByteArray) (ss tt : Nat → Int) : Prop :=
  ∃ f : Nat → Value, wr.rowIs N 32 (n * 3) f ∧ Below N w wr ∧ ∀ i, i < j → f (i * 3) = .string (cs i) ∧ f (i * 3 + 1) = .int .i64 (ss i) ∧ f (i * 3 + 2) = .int .i64 (tt i)

/-- cloneHolders. -/
theorem clone12_any (a : Option Addr) (cap n : Nat) (cs : Nat → ByteArray) (ss tt : Nat → Int) (w : World) (hm : n ≤ 1048576) (hs : HoldAt w a n cs ss tt) :
    Calls Try.prog 12 #[.slice a n cap] w fun e w' => ∃ a' cap', e = .returned (.slice a' n cap') ∧ HoldAt w' a' n cs ss tt ∧ Below w.heap.size w w' := by
  obtain ⟨i32, hi32, hz32, hs32, hb32⟩ := info_parts Try.info32
  have hmk : ∀ w : World, (Instr.makeSlice 29 (.int .i64 (n : Int)) (.int .i64 (n : Int))).run Try.prog w = .ok (.slice (some ⟨w.heap.size, 0, none⟩) n n) (w.alloc (.cells (madeCells #[.string ⟨#[]⟩, .int .i64 0, .int .i64 0] (n * 3)) 32)) := fun w => by
    have := run_make (P := Try.prog) w 29 32 i32 _ Try.underlying29 hi32 hz32 .i64 .i64 n n (by omega) (by omega) (by rw [hb32]; omega) (by omega)
    rw [hs32] at this
    simpa [Value.cells] using this
  have hq := q29
  rcases Nat.eq_zero_or_pos n with rfl | hpos
  · clear hs
    have hmk0 : ∀ w : World, (Instr.makeSlice 29 (.int .i64 0) (.int .i64 0)).run Try.prog w = .ok (.slice (some ⟨w.heap.size, 0, none⟩) 0 0) (w.alloc (.cells (madeCells #[.string ⟨#[]⟩, .int .i64 0, .int .i64 0] (0 * 3)) 32)) := fun w => by simpa using hmk w
    clear hmk
    cases a with
    | none =>
      go_enter Try.func12, Try.ntmps12
      go_wp2
      go_ret
      exact ⟨none, 0, rfl, .inl rfl, Below.refl _ _⟩
    | some a =>
      go_enter Try.func12, Try.ntmps12
      go_wp2
      refine wp_loop_rounds 1 ?_
      rw [rounds_succ]
      go_wp2
      go_ret
      exact ⟨_, _, rfl, .inl rfl, (Below.refl _ _).alloc (Nat.le_refl _) _⟩
  · rcases hs with rfl | ⟨b, off, rfl, hb, hc⟩
    · omega
    go_enter Try.func12, Try.ntmps12
    go_wp2
    go_loopw [4] (fun i wr => ∃ j : Nat, j ≤ n ∧ i = .int .i64 j ∧ ClonedTo w wr w.heap.size n j cs ss tt) (fun i _ => n - (intOf i).toNat)
    case atStart =>
      refine ⟨0, Nat.zero_le _, rfl, fun i => #[Value.string ⟨#[]⟩, .int .i64 0, .int .i64 0][i % 3]!, ?_, (Below.refl _ _).alloc (Nat.le_refl _) _, fun i h => by omega⟩
      have := World.rowIs_alloc w (madeCells #[.string ⟨#[]⟩, .int .i64 0, .int .i64 0] (n * 3)) 32 (fun i => #[Value.string ⟨#[]⟩, .int .i64 0, .int .i64 0][i % 3]!) (fun i hi => by rw [size_madeCells] at hi; simp [madeCells, hi])
      rwa [size_madeCells] at this
    case round =>
      obtain ⟨j, hj, rfl, f, hrow, hbel, hf⟩ := hrel
      have hc0 : j < n → wr.cell? ⟨b, off + j * 3, none⟩ = some (.string (cs j)) := fun h => (hbel.cell (p := ⟨b, off + j * 3, none⟩) hb).trans (hc j h).1
      have hc1 : j < n → wr.cell? ⟨b, off + j * 3 + 1, none⟩ = some (.int .i64 (ss j)) := fun h => (hbel.cell (p := ⟨b, off + j * 3 + 1, none⟩) hb).trans (hc j h).2.1
      have hc2 : j < n → wr.cell? ⟨b, off + j * 3 + 2, none⟩ = some (.int .i64 (tt j)) := fun h => (hbel.cell (p := ⟨b, off + j * 3 + 2, none⟩) hb).trans (hc j h).2.2
      have hlt0 := hrow.lt
      have fr0 := hrow.frozen (j * 3)
      have fr1 := hrow.frozen (j * 3 + 1)
      have fr2 := hrow.frozen (j * 3 + 2)
      have ho0 : j < n → wr.cell? ⟨w.heap.size, j * 3, none⟩ = some (f (j * 3)) := fun h => hrow.cell (by omega)
      have ho1 : j < n → wr.cell? ⟨w.heap.size, j * 3 + 1, none⟩ = some (f (j * 3 + 1)) := fun h => hrow.cell (by omega)
      have ho2 : j < n → wr.cell? ⟨w.heap.size, j * 3 + 2, none⟩ = some (f (j * 3 + 2)) := fun h => hrow.cell (by omega)
      have HF : Hid (∀ i, i < j → f (i * 3) = .string (cs i) ∧ f (i * 3 + 1) = .int .i64 (ss i) ∧ f (i * 3 + 2) = .int .i64 (tt i)) := hf
      clear hc hf
      go_wp2
      · go_roundw
        case rel =>
          refine ⟨j + 1, by omega, by go_num, _, ((hrow.set (j * 3) _).set (j * 3 + 1) _).set (j * 3 + 2) _, ((hbel.setCell (Nat.le_refl _) _).setCell (Nat.le_refl _) _).setCell (Nat.le_refl _) _, fun i hi => ?_⟩
          by_cases e : i = j
          · subst e
            refine ⟨?_, ?_, ?_⟩
            · simp only [show ¬ i * 3 = i * 3 + 2 by omega, show ¬ i * 3 = i * 3 + 1 by omega, if_false, if_true]
            · simp only [show ¬ i * 3 + 1 = i * 3 + 2 by omega, if_false, if_true]
            · simp only [if_true]
          · have h1 := HF.out i (by omega)
            refine ⟨?_, ?_, ?_⟩
            · simp only [show ¬ i * 3 = j * 3 + 2 by omega, show ¬ i * 3 = j * 3 + 1 by omega, show ¬ i * 3 = j * 3 by omega, if_false]
              exact h1.1
            · simp only [show ¬ i * 3 + 1 = j * 3 + 2 by omega, show ¬ i * 3 + 1 = j * 3 + 1 by omega, show ¬ i * 3 + 1 = j * 3 by omega, if_false]
              exact h1.2.1
            · simp only [show ¬ i * 3 + 2 = j * 3 + 2 by omega, show ¬ i * 3 + 2 = j * 3 + 1 by omega, show ¬ i * 3 + 2 = j * 3 by omega, if_false]
              exact h1.2.2
        case measure => simp [intOf]; omega
      · obtain rfl : j = n := by omega
        go_ret
        refine ⟨_, _, rfl, .inr ⟨w.heap.size, 0, rfl, hrow.lt, fun i hi => ?_⟩, hbel⟩
        have h1 := HF.out i hi
        rw [Nat.zero_add, hrow.cell (by omega), hrow.cell (by omega), hrow.cell (by omega), h1.1, h1.2.1, h1.2.2]
        exact ⟨rfl, rfl, rfl⟩
end Go.Proofs.Qxb6602190a
