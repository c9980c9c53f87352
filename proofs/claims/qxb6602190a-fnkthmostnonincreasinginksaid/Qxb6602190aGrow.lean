/-
  Seat b6602190a: (*strings.Builder).grow and Grow at a fresh builder inside a chunk.
-/
import Derived.Test.Qxb6602190aBuild
namespace Go.Proofs.Qxb6602190a
open Go.RowKit

theorem Try.size5 : (Try.prog.info? 5).map (·.size) = some 1 := by kernel_rfl

set_option maxHeartbeats 2000000 in
set_option maxRecDepth 1000000 in
/-- grow at a builder without a buffer. -/
theorem grow_fresh (B cb k : Nat) (C : Array Value) (w : World) (h : ChunkIs w B cb C 0) (hC1 : C[1]? = some (.slice none 0 0)) (hk : k ≤ 2097152) (hB : B ≤ w.heap.size) :
    Calls Try.prog 21 #[.pointer (some ⟨cb, 0, none⟩), .int .i64 k] w fun e w' => e = .returned (.tuple #[]) ∧ (∃ C', ChunkIs w' B cb C' 0 ∧ (∀ i, i ≠ 1 → C'[i]? = C[i]?) ∧ Kept (fun i => i = cb) w w') := by
  obtain ⟨cs, hrun, hle, hmax⟩ := Lib.run_makeNoZero (P := Try.prog) w.drew #[3] 42 5 Try.underlying42 k (by omega)
  have hcall : (callFunc 23 #[.int .i64 (k : Int)]).run Try.prog w.drew = .ok (.value (.slice (some ⟨w.drew.heap.size, 0, none⟩) k cs.size)) (w.drew.drew.drew.alloc (.cells cs 5)) := by
    rw [run_callFunc_extern Try.func23 (by kernel_rfl) (by kernel_rfl) (by kernel_rfl) (e := Extern.BytealgMakeNoZero.makeNoZero #[3] #[42]) (by kernel_rfl), hrun]
    rfl
  have hlt := lt_of_heap h.heap
  have c1 : w.cell? ⟨cb, 1, none⟩ = some (.slice none 0 0) := (h.cell 1).trans hC1
  have hh2 : (w.alloc (.cells cs 5)).heap[cb]? = some (.cells C 48 (0, 0)) := (Below.heap_alloc w _ cb hlt).trans h.heap
  have c2 : (w.alloc (.cells cs 5)).cell? ⟨cb, 1, none⟩ = some (.slice none 0 0) := by rw [cell_of_row _ _ _ _ _ _ hh2]; exact hC1
  have f2 : (w.alloc (.cells cs 5)).frozen? ⟨cb, 1, none⟩ = false := frozen_of_row _ _ _ _ _ hh2
  have hcopy : ∀ W : World, (Builtin.copy_ #[42, 42] 3 #[.slice (some ⟨w.heap.size, 0, none⟩) 0 cs.size, .slice none 0 0]).run Try.prog W = .ok (goInt 0) W :=
    fun W => run_copy_none W 42 42 3 5 _ _ 0 cs.size 0 0 Try.underlying42 Try.size5 rfl
  go_enter Try.func21, Try.ntmps21
  go_wp2
  go_region
  go_wp2
  go_end0
  have hk0 : Kept (fun i => i = cb) w ((w.setCell ⟨cb, 1, none⟩ (.slice (some ⟨w.heap.size, 0, none⟩) 0 cs.size)).alloc (.cells cs 5)) := ((Kept.refl (fun i => i = cb) w).setCell (a := ⟨cb, 1, none⟩) rfl _).alloc _
  have hsz : (w.setCell ⟨cb, 1, none⟩ (.slice (some ⟨w.heap.size, 0, none⟩) 0 cs.size)).heap.size = w.heap.size := by simp [World.setCell]
  have hnew : ((w.setCell ⟨cb, 1, none⟩ (.slice (some ⟨w.heap.size, 0, none⟩) 0 cs.size)).alloc (.cells cs 5)).heap[w.heap.size]? = some (.cells cs 5 (0, 0)) := by
    have := heap_alloc_new (w.setCell ⟨cb, 1, none⟩ (.slice (some ⟨w.heap.size, 0, none⟩) 0 cs.size)) (.cells cs 5)
    rwa [hsz] at this
  have hold : ((w.setCell ⟨cb, 1, none⟩ (.slice (some ⟨w.heap.size, 0, none⟩) 0 cs.size)).alloc (.cells cs 5)).heap[cb]? = some (.cells (C.setIfInBounds 1 (.slice (some ⟨w.heap.size, 0, none⟩) 0 cs.size)) 48 (0, 0)) :=
    (Below.heap_alloc _ _ cb (by rw [hsz]; exact hlt)).trans (heap_set h.heap 1 _)
  refine ⟨rfl, C.setIfInBounds 1 (.slice (some ⟨w.heap.size, 0, none⟩) 0 cs.size), ⟨hold, by simp [h.size], ?_, ⟨.slice (some ⟨w.heap.size, 0, none⟩) 0 cs.size, [], by simp [h.size], rfl, .inr ⟨w.heap.size, cs.size, cs, rfl, hB, hnew, Nat.zero_le _, hmax (by unfold maxLen; omega), by simp, by simp⟩⟩⟩, fun i hi => by rw [Array.getElem?_setIfInBounds, if_neg (fun e => hi e.symm)], hk0.drew.drew.drew⟩
  rw [Array.getElem?_setIfInBounds, if_neg (by omega)]
  exact h.addr

set_option maxHeartbeats 2000000 in
set_option maxRecDepth 1000000 in
/-- Grow at a builder that has not been written. -/
theorem Grow_fresh (B cb k : Nat) (C : Array Value) (w : World) (h : ChunkIs w B cb C 0) (hC1 : C[1]? = some (.slice none 0 0)) (hk : k ≤ 2097152) (hB : B ≤ w.heap.size) :
    Calls Try.prog 17 #[.pointer (some ⟨cb, 0, none⟩), .int .i64 k] w fun e w' => e = .returned (.tuple #[]) ∧ (∃ C', ChunkIs w' B cb C' 0 ∧ (∀ i, 2 ≤ i → C'[i]? = C[i]?) ∧ Kept (fun i => i = cb) w w') := by
  go_enter Try.func17, Try.ntmps17
  go_wp2_with (go_at_call 20; refine (check_any B cb 0 C w h).mono ?_; rintro e w1 ⟨rfl, C1, h1, h10, hCC, hk1, hs1⟩; have c1 : w1.cell? ⟨cb, 1, none⟩ = some (.slice none 0 0) := (h1.cell 1).trans ((hCC 1 (by omega)).trans hC1))
  go_quiet (fail)
  by_cases hk0 : 0 < k
  · have H21 := fun nq => grow_fresh B cb k C1 (w1.drewN nq) ⟨h1.heap, h1.size, h1.addr, h1.buf⟩ ((hCC 1 (by omega)).trans hC1) hk (by show B ≤ w1.heap.size; omega)
    go_wp2_with (go_at_call 21; refine (H21 _).mono ?_; rintro e w2 ⟨rfl, C2, h2, hC2, hk2⟩)
    go_end0
    exact ⟨rfl, C2, h2, fun i hi => (hC2 i (by omega)).trans (hCC i (by omega)), ((hk1.drewN _).trans hk2 (fun i _ e => e))⟩
  · go_wp2
    go_end0
    exact ⟨rfl, C1, ⟨h1.heap, h1.size, h1.addr, h1.buf⟩, fun i hi => hCC i (by omega), hk1.drewN _⟩
end Go.Proofs.Qxb6602190a
