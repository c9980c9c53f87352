/-
  Seat b6602190a: what a call leaves as it was: every block that was there, but for those of S; and the builder inside a chunk.
-/
import Derived.WalkKit
import Derived.Deep.OwnRows
import Derived.Deep.Draws
namespace Go.Proofs.Qxb6602190a
open Go.RowKit

structure Kept (S : Nat → Prop) (w w' : World) : Prop where
  os : w'.os = w.os
  tape : w'.tape = w.tape
  output : w'.output = w.output
  size : w.heap.size ≤ w'.heap.size
  block : ∀ k, k < w.heap.size → ¬ S k → w'.heap[k]? = w.heap[k]?

namespace Kept
variable {S T : Nat → Prop} {w w' w'' : World}
theorem refl (S : Nat → Prop) (w : World) : Kept S w w := ⟨rfl, rfl, rfl, Nat.le_refl _, fun _ _ _ => rfl⟩
theorem trans (h : Kept S w w') (k : Kept T w' w'') (hT : ∀ i, i < w.heap.size → T i → S i) : Kept S w w'' :=
  ⟨k.os.trans h.os, k.tape.trans h.tape, k.output.trans h.output, Nat.le_trans h.size k.size,
    fun i hi hs => (k.block i (Nat.lt_of_lt_of_le hi h.size) (fun e => hs (hT i hi e))).trans (h.block i hi hs)⟩
theorem mono (h : Kept S w w') (hT : ∀ i, i < w.heap.size → S i → T i) : Kept T w w' := (refl T w).trans h hT
theorem drew (h : Kept S w w') : Kept S w w'.drew := ⟨h.os, h.tape, h.output, h.size, h.block⟩
theorem drewN (h : Kept S w w') (n : Nat) : Kept S w (w'.drewN n) := ⟨h.os, h.tape, h.output, h.size, h.block⟩
theorem alloc (h : Kept S w w') (o : Obj) : Kept S w (w'.alloc o) :=
  h.trans (T := fun _ => False) ⟨rfl, rfl, rfl, by simp, fun k hk _ => Below.heap_alloc w' o k hk⟩ (fun _ _ e => e.elim)
theorem setCell (h : Kept S w w') {a : Addr} (ha : S a.block) (v : Value) : Kept S w (w'.setCell a v) :=
  h.trans (T := fun k => k = a.block) ⟨rfl, rfl, rfl, by simp [World.setCell], fun k _ e => heap_setCell_other w' a k v e⟩ (fun _ _ e => e ▸ ha)
theorem setCellNew (h : Kept S w w') {a : Addr} (ha : w.heap.size ≤ a.block) (v : Value) : Kept S w (w'.setCell a v) :=
  h.trans (T := fun k => k = a.block) ⟨rfl, rfl, rfl, by simp [World.setCell], fun k _ e => heap_setCell_other w' a k v e⟩ (fun i hi e => by omega)
theorem of_grown {r : Option Nat} (h : w.grownBy w' r) : Kept (fun k => some k = r) w w' := ⟨h.os, h.tape, h.output, h.size, h.block⟩
theorem grown {r : Option Nat} (h : Kept S w w') (hg : w'.grownBy w'' r) (hr : ∀ k, k < w.heap.size → some k = r → S k) : Kept S w w'' := h.trans (of_grown hg) hr
theorem below {B : Nat} (h : Kept S w w') (hS : ∀ k, S k → B ≤ k) (hB : B ≤ w.heap.size) : Below B w w' :=
  ⟨h.os, h.tape, h.output, h.size, fun k hk => h.block k (by omega) (fun e => by have := hS k e; omega)⟩
theorem of_below {B : Nat} (h : Below B w w') : Kept (fun k => B ≤ k) w w' := ⟨h.os, h.tape, h.output, h.size, fun k _ e => h.block k (by omega)⟩
theorem row {b n : Nat} {t : TypeId} {f : Nat → Value} (h : Kept S w w') (hr : w.rowIs b t n f) (hb : ¬ S b) : w'.rowIs b t n f := hr.of_block (h.block b hr.lt hb)
theorem heap {b : Nat} {o : Obj} (h : Kept S w w') (hr : w.heap[b]? = some o) (hb : ¬ S b) : w'.heap[b]? = some o :=
  (h.block b (Array.getElem?_eq_some_iff.1 hr).1 hb).trans hr
theorem cell (h : Kept S w w') {a : Addr} (ha : a.block < w.heap.size) (hb : ¬ S a.block) : w'.cell? a = w.cell? a := World.cell?_of_block (w := w) (h.block a.block ha hb)
theorem own {base : Nat} {e : TypeId} {size : Nat} {v : Value} {n : Nat} {xs : List Value} (hk : Kept S w w') (h : w.ownsRow base e size v n xs) (hg : ∀ g, v.ownBlock = some g → ¬ S g) : w'.ownsRow base e size v n xs := by
  refine ⟨h.1, ?_⟩
  rcases h.2 with hn | ⟨g, cap, cur, rfl, hb, hh, r⟩
  · exact .inl hn
  · exact .inr ⟨g, cap, cur, rfl, hb, hk.heap hh (hg g rfl), r⟩
end Kept

/-- A block of another type is not the row's. -/
theorem own_ne {w : World} {base : Nat} {e t : TypeId} {size : Nat} {v : Value} {n : Nat} {xs : List Value} {b : Nat} {C : Array Value} {fr : Nat × Nat} (h : w.ownsRow base e size v n xs) (hb : w.heap[b]? = some (.cells C t fr)) (hne : t ≠ e) : v.ownBlock ≠ some b := by
  intro hv
  rcases h.2 with ⟨rfl, _⟩ | ⟨g, cap, cur, rfl, _, hh, _⟩
  · simp [Value.ownBlock] at hv
  · simp [Value.ownBlock] at hv
    subst hv
    rw [hh] at hb
    cases hb
    exact hne rfl

theorem lt_of_heap {w : World} {b : Nat} {o : Obj} (h : w.heap[b]? = some o) : b < w.heap.size := (Array.getElem?_eq_some_iff.1 h).1

/-- A store into a block of cells. -/
theorem heap_set {w : World} {b : Nat} {C : Array Value} {t : TypeId} (h : w.heap[b]? = some (.cells C t (0, 0))) (i : Nat) (v : Value) : (w.setCell ⟨b, i, none⟩ v).heap[b]? = some (.cells (C.setIfInBounds i v) t (0, 0)) := by
  simp [World.setCell, Array.getElem?_modify, h]

end Go.Proofs.Qxb6602190a
