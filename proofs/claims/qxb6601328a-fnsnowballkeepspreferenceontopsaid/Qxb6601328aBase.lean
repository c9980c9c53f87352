/-
  Seat b6601328a: the callees of 'FnSnowballKeepsPreferenceOnTop'.
-/
import Derived.Test.Qxb6601328aChecked
import Derived.WalkKit
import Derived.Below
namespace Go.Proofs.Qxb6601328a
open Go.RowKit

/-- The twelve cells of a node (of a ZNode: the same). -/
def node (c0 c1 st po fl v0 v1 da ins ip sc : Int) (d : Bool) : Array Value :=
  #[.int .i64 c0, .int .i64 c1, .int .i64 st, .int .i64 po, .int .i64 fl, .int .i64 v0, .int .i64 v1, .int .i64 da, .int .i64 ins, .int .u32 ip, .int .u8 sc, .bool d]

theorem new4 (c0 c1 st po fl v0 v1 da ins ip sc : Int) (d : Bool) (w : World) :
    Calls Try.prog 4 #[.agg #[.int .i64 c0, .int .i64 c1], .int .i64 st, .int .i64 po, .int .i64 fl, .agg #[.int .i64 v0, .int .i64 v1], .int .i64 da, .int .i64 ins, .int .u32 ip, .int .u8 sc, .bool d] w fun e w' =>
      e = .returned (.pointer (some ⟨w.heap.size + 2, 0, none⟩)) ∧ w'.heap.size = w.heap.size + 3 ∧ w'.heap[w.heap.size + 2]? = some (.cells (node c0 c1 st po fl v0 v1 da ins ip sc d) 37 (0, 0)) ∧ Below w.heap.size w w' := by
  go_enter Try.func4, Try.ntmps4
  go_wp2
  go_ret
  refine ⟨rfl, by simp, ?_, (((Below.refl _ _).alloc (Nat.le_refl _) _).alloc (by simp) _).alloc (by simp; omega) _⟩
  have := heap_alloc_new ((w.alloc (.cells #[.int .i64 c0, .int .i64 c1] 22)).alloc (.cells #[.int .i64 v0, .int .i64 v1] 22)) (.cells (node c0 c1 st po fl v0 v1 da ins ip sc d) 37)
  simpa [node] using this

theorem of6 (c0 c1 st po fl v0 v1 da ins ip sc : Int) (d : Bool) (w : World) :
    Calls Try.prog 6 #[.agg #[.int .i64 c0, .int .i64 c1], .int .i64 st, .int .i64 po, .int .i64 fl, .agg #[.int .i64 v0, .int .i64 v1], .int .i64 da, .int .i64 ins, .int .u32 ip, .int .u8 sc, .bool d] w fun e w' =>
      e = .returned (.agg (node c0 c1 st po fl v0 v1 da ins ip sc d)) ∧ Below w.heap.size w w' := by
  go_enter Try.func6, Try.ntmps6
  go_wp2
  refine bodyPost_ret (v := .agg (node c0 c1 st po fl v0 v1 da ins ip sc d)) (by simp [results, Try.results6, go_sem, node]) rfl ⟨rfl, (((Below.refl _ _).alloc (Nat.le_refl _) _).alloc (by simp) _).alloc (by simp; omega) _⟩

/-- The cells of a node's block. -/
structure NodeAt (w : World) (b : Nat) (c0 c1 st po fl v0 v1 da ins ip sc : Int) (d : Bool) : Prop where
  lt : b < w.heap.size
  k0 : w.cell? ⟨b, 0, none⟩ = some (.int .i64 c0)
  k1 : w.cell? ⟨b, 1, none⟩ = some (.int .i64 c1)
  k2 : w.cell? ⟨b, 2, none⟩ = some (.int .i64 st)
  k3 : w.cell? ⟨b, 3, none⟩ = some (.int .i64 po)
  k4 : w.cell? ⟨b, 4, none⟩ = some (.int .i64 fl)
  k5 : w.cell? ⟨b, 5, none⟩ = some (.int .i64 v0)
  k6 : w.cell? ⟨b, 6, none⟩ = some (.int .i64 v1)
  k7 : w.cell? ⟨b, 7, none⟩ = some (.int .i64 da)
  k8 : w.cell? ⟨b, 8, none⟩ = some (.int .i64 ins)
  k9 : w.cell? ⟨b, 9, none⟩ = some (.int .u32 ip)
  k10 : w.cell? ⟨b, 10, none⟩ = some (.int .u8 sc)
  k11 : w.cell? ⟨b, 11, none⟩ = some (.bool d)

theorem NodeAt.of_heap {w : World} {b : Nat} {c0 c1 st po fl v0 v1 da ins ip sc : Int} {d : Bool} {t : TypeId} {fr : Nat × Nat} (h : w.heap[b]? = some (.cells (node c0 c1 st po fl v0 v1 da ins ip sc d) t fr)) : NodeAt w b c0 c1 st po fl v0 v1 da ins ip sc d := by
  refine ⟨(Array.getElem?_eq_some_iff.1 h).1, ?_, ?_, ?_, ?_, ?_, ?_, ?_, ?_, ?_, ?_, ?_, ?_⟩ <;> simp [World.cell?, h, node]
end Go.Proofs.Qxb6601328a
