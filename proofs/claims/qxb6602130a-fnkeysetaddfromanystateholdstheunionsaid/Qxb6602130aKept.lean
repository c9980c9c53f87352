/-
  Seat b6602130a: what a call leaves as it was: every block that was there, but for those of S.
-/
import Derived.Test.Qxb6602130aPlain
import Derived.Deep.OwnRows
import Derived.Deep.Draws
namespace Go.Proofs.Qxb6602130a
open Go.RowKit

structure Kept (S : Nat → Prop) (w w' : World) : Prop where
  os : w'.os = w.os
  tape : w'.tape = w.tape
  output : w'.output = w.output
  size : w.heap.size ≤ w'.heap.size
  block : ∀ k, k < w.heap.size → ¬ S k → w'.heap[k]? = w.heap[k]?

namespace Kept
variable {S T : Nat → Prop} {w w' w'' : World}

theorem refl (S : Nat → Prop) (w : World) : Kept S w w := ⟨rfl, rfl, rfl, Nat.le_refl _, fun _ _ _ => rfl⟩
theorem trans (h : Kept S w w') (k : Kept T w' w'') (hT : ∀ i, i < w.heap.size → T i → S i) : Kept S w w'' :=
  ⟨k.os.trans h.os, k.tape.trans h.tape, k.output.trans h.output, Nat.le_trans h.size k.size,
    fun i hi hs => (k.block i (Nat.lt_of_lt_of_le hi h.size) (fun e => hs (hT i hi e))).trans (h.block i hi hs)⟩
theorem mono (h : Kept S w w') (hT : ∀ i, i < w.heap.size → S i → T i) : Kept T w w' := (refl T w).trans h hT
theorem drew (h : Kept S w w') : Kept S w w'.drew := ⟨h.os, h.tape, h.output, h.size, h.block⟩
theorem drewN (h : Kept S w w') (n : Nat) : Kept S w (w'.drewN n) := ⟨h.os, h.tape, h.output, h.size, h.block⟩
theorem alloc (h : Kept S w w') (o : Obj) : Kept S w (w'.alloc o) :=
  h.trans (T := fun _ => False) ⟨rfl, rfl, rfl, by simp, fun k hk _ => heap_alloc_old w' o k hk⟩ (fun _ _ e => e.elim)
theorem setCell (h : Kept S w w') {a : Addr} (ha : S a.block) (v : Value) : Kept S w (w'.setCell a v) :=
  h.trans (T := fun k => k = a.block) ⟨rfl, rfl, rfl, by simp [World.setCell], fun k _ e => heap_setCell_other w' a k v e⟩ (fun _ _ e => e ▸ ha)
theorem setCellNew (h : Kept S w w') {a : Addr} (ha : w.heap.size ≤ a.block) (v : Value) : Kept S w (w'.setCell a v) :=
  h.trans (T := fun k => k = a.block) ⟨rfl, rfl, rfl, by simp [World.setCell], fun k _ e => heap_setCell_other w' a k v e⟩ (fun i hi e => by omega)
theorem of_grown {r : Option Nat} (h : w.grownBy w' r) : Kept (fun k => some k = r) w w' := ⟨h.os, h.tape, h.output, h.size, h.block⟩
theorem grown {r : Option Nat} (h : Kept S w w') (hg : w'.grownBy w'' r) (hr : ∀ k, k < w.heap.size → some k = r → S k) : Kept S w w'' := h.trans (of_grown hg) hr
theorem below {B : Nat} (h : Kept S w w') (hS : ∀ k, S k → B ≤ k) (hB : B ≤ w.heap.size) : Below B w w' :=
  ⟨h.os, h.tape, h.output, h.size, fun k hk => h.block k (by omega) (fun e => by have := hS k e; omega)⟩
theorem of_below {B : Nat} (h : Below B w w') : Kept (fun k => B ≤ k) w w' := ⟨h.os, h.tape, h.output, h.size, fun k _ e => h.block k (by omega)⟩
theorem row {b n : Nat} {t : TypeId} {f : Nat → Value} (h : Kept S w w') (hr : w.rowIs b t n f) (hb : ¬ S b) : w'.rowIs b t n f := hr.of_block (h.block b hr.lt hb)
theorem map {P : Program} {k b n : Nat} {R : Value → Option (DataW Unit × List MemPlace)} {D : DataW Unit} (h : Kept S w w') (hr : w.ownsMap P k R b n D) (hb : ¬ S b) : w'.ownsMap P k R b n D := by
  have hlt := hr.lt
  obtain ⟨es, clock, e, r⟩ := hr
  exact ⟨es, clock, (h.block b hlt hb).trans e, r⟩
theorem cell (h : Kept S w w') {a : Addr} (ha : a.block < w.heap.size) (hb : ¬ S a.block) : w'.cell? a = w.cell? a := World.cell?_of_block (w := w) (h.block a.block ha hb)
end Kept

end Go.Proofs.Qxb6602130a
