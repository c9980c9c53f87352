/-
  Seat b6601328a: a ZNode, as an argument, laid open.
-/
import Derived.Test.Qxb6601328aBase
import Derived.Deep.Slices
import Derived.Deep.Fields
import Derived.OpenShut
namespace Go.Proofs.Qxb6601328a
open Go.ChangeShapes Go.WideShapes Go.Deep

theorem Try.cells25 : Try.prog.cellsOf 25 = 12 := by kernel_rfl
theorem Try.cells22 : Try.prog.cellsOf 22 = 2 := by kernel_rfl
theorem Try.cells3 : Try.prog.cellsOf 3 = 1 := by kernel_rfl
theorem Try.cells2 : Try.prog.cellsOf 2 = 1 := by kernel_rfl
theorem Try.cells23 : Try.prog.cellsOf 23 = 1 := by kernel_rfl
theorem Try.cells5 : Try.prog.cellsOf 5 = 1 := by kernel_rfl
theorem Try.cells4 : Try.prog.cellsOf 4 = 1 := by kernel_rfl

section
variable {H : Type} {enc : TypeId × Value → H} {W : World} {base : Nat} {spare : Nat → Bool} {held : Bool} {fuel : Nat} {x : DataW H × List MemPlace}

theorem open_pair {a b : Value} (h : DataW.trod enc Try.prog W base spare held fuel 22 [a, b] = some x) :
    ∃ m n : Int, a = .int .i64 m ∧ b = .int .i64 n ∧ (Lit.int .i64 m).wf = true ∧ (Lit.int .i64 n).wf = true := by
  obtain ⟨xs, n, _, _, _, hxl, hf⟩ := DataW.trod_array Try.underlying22 h
  have f0 := hf 0 (by omega)
  have f1 := hf 1 (by omega)
  rw [Try.cells3, List.getElem?_eq_getElem (show 0 < xs.length by omega)] at f0
  rw [Try.cells3, List.getElem?_eq_getElem (show 1 < xs.length by omega)] at f1
  change DataW.trod enc Try.prog W base spare held n 3 [a] = _ at f0
  change DataW.trod enc Try.prog W base spare held n 3 [b] = _ at f1
  obtain ⟨m, e0, _, hm⟩ := DataW.trod_int Try.underlying3 f0
  obtain ⟨k, e1, _, hk⟩ := DataW.trod_int Try.underlying3 f1
  cases e0
  cases e1
  exact ⟨m, k, rfl, rfl, hm, hk⟩

theorem open_node {cs : Array Value} (hl : cs.size = 12) (h : DataW.trod enc Try.prog W base spare held fuel 25 cs.toList = some x) :
    ∃ (c0 c1 st po fl v0 v1 da ins ip sc : Int) (d : Bool), cs = node c0 c1 st po fl v0 v1 da ins ip sc d ∧ (Lit.int .i64 c0).wf = true ∧ (Lit.int .i64 c1).wf = true ∧ (Lit.int .u8 sc).wf = true := by
  obtain ⟨l⟩ := cs
  change DataW.trod enc Try.prog W base spare held fuel 25 l = some x at h
  have hll : l.length = 12 := hl
  obtain ⟨xs, n, _, _, _, hxl, hf⟩ := DataW.trod_struct Try.underlying25 h
  have hxl3 : xs.length = 10 := hxl
  match l, hll with
  | [x0, x1, x2, x3, x4, x5, x6, x7, x8, x9, x10, x11], _ =>
    have f0 : DataW.trod enc Try.prog W base spare held n 22 (([x0, x1, x2, x3, x4, x5, x6, x7, x8, x9, x10, x11].drop 0).take (Try.prog.cellsOf 22)) = xs[0]? := hf 0 _ rfl
    rw [Try.cells22, List.getElem?_eq_getElem (show 0 < xs.length by omega)] at f0
    change DataW.trod enc Try.prog W base spare held n 22 [x0, x1] = _ at f0
    have f1 : DataW.trod enc Try.prog W base spare held n 3 (([x0, x1, x2, x3, x4, x5, x6, x7, x8, x9, x10, x11].drop 2).take (Try.prog.cellsOf 3)) = xs[1]? := hf 1 _ rfl
    rw [Try.cells3, List.getElem?_eq_getElem (show 1 < xs.length by omega)] at f1
    change DataW.trod enc Try.prog W base spare held n 3 [x2] = _ at f1
    have f2 : DataW.trod enc Try.prog W base spare held n 3 (([x0, x1, x2, x3, x4, x5, x6, x7, x8, x9, x10, x11].drop 3).take (Try.prog.cellsOf 3)) = xs[2]? := hf 2 _ rfl
    rw [Try.cells3, List.getElem?_eq_getElem (show 2 < xs.length by omega)] at f2
    change DataW.trod enc Try.prog W base spare held n 3 [x3] = _ at f2
    have f3 : DataW.trod enc Try.prog W base spare held n 3 (([x0, x1, x2, x3, x4, x5, x6, x7, x8, x9, x10, x11].drop 4).take (Try.prog.cellsOf 3)) = xs[3]? := hf 3 _ rfl
    rw [Try.cells3, List.getElem?_eq_getElem (show 3 < xs.length by omega)] at f3
    change DataW.trod enc Try.prog W base spare held n 3 [x4] = _ at f3
    have f4 : DataW.trod enc Try.prog W base spare held n 22 (([x0, x1, x2, x3, x4, x5, x6, x7, x8, x9, x10, x11].drop 5).take (Try.prog.cellsOf 22)) = xs[4]? := hf 4 _ rfl
    rw [Try.cells22, List.getElem?_eq_getElem (show 4 < xs.length by omega)] at f4
    change DataW.trod enc Try.prog W base spare held n 22 [x5, x6] = _ at f4
    have f5 : DataW.trod enc Try.prog W base spare held n 2 (([x0, x1, x2, x3, x4, x5, x6, x7, x8, x9, x10, x11].drop 7).take (Try.prog.cellsOf 2)) = xs[5]? := hf 5 _ rfl
    rw [Try.cells2, List.getElem?_eq_getElem (show 5 < xs.length by omega)] at f5
    change DataW.trod enc Try.prog W base spare held n 2 [x7] = _ at f5
    have f6 : DataW.trod enc Try.prog W base spare held n 2 (([x0, x1, x2, x3, x4, x5, x6, x7, x8, x9, x10, x11].drop 8).take (Try.prog.cellsOf 2)) = xs[6]? := hf 6 _ rfl
    rw [Try.cells2, List.getElem?_eq_getElem (show 6 < xs.length by omega)] at f6
    change DataW.trod enc Try.prog W base spare held n 2 [x8] = _ at f6
    have f7 : DataW.trod enc Try.prog W base spare held n 23 (([x0, x1, x2, x3, x4, x5, x6, x7, x8, x9, x10, x11].drop 9).take (Try.prog.cellsOf 23)) = xs[7]? := hf 7 _ rfl
    rw [Try.cells23, List.getElem?_eq_getElem (show 7 < xs.length by omega)] at f7
    change DataW.trod enc Try.prog W base spare held n 23 [x9] = _ at f7
    have f8 : DataW.trod enc Try.prog W base spare held n 5 (([x0, x1, x2, x3, x4, x5, x6, x7, x8, x9, x10, x11].drop 10).take (Try.prog.cellsOf 5)) = xs[8]? := hf 8 _ rfl
    rw [Try.cells5, List.getElem?_eq_getElem (show 8 < xs.length by omega)] at f8
    change DataW.trod enc Try.prog W base spare held n 5 [x10] = _ at f8
    have f9 : DataW.trod enc Try.prog W base spare held n 4 (([x0, x1, x2, x3, x4, x5, x6, x7, x8, x9, x10, x11].drop 11).take (Try.prog.cellsOf 4)) = xs[9]? := hf 9 _ rfl
    rw [Try.cells4, List.getElem?_eq_getElem (show 9 < xs.length by omega)] at f9
    change DataW.trod enc Try.prog W base spare held n 4 [x11] = _ at f9
    obtain ⟨c0, c1, rfl, rfl, hc0, hc1⟩ := open_pair f0
    obtain ⟨v0, v1, rfl, rfl, _, _⟩ := open_pair f4
    obtain ⟨st, e1, _⟩ := DataW.trod_int Try.underlying3 f1
    cases e1
    obtain ⟨po, e2, _⟩ := DataW.trod_int Try.underlying3 f2
    cases e2
    obtain ⟨fl, e3, _⟩ := DataW.trod_int Try.underlying3 f3
    cases e3
    obtain ⟨da, e5, _⟩ := DataW.trod_int Try.underlying2 f5
    cases e5
    obtain ⟨ins, e6, _⟩ := DataW.trod_int Try.underlying2 f6
    cases e6
    obtain ⟨ip, e7, _⟩ := DataW.trod_int Try.underlying23 f7
    cases e7
    obtain ⟨sc, e8, _, hsc⟩ := DataW.trod_int Try.underlying5 f8
    cases e8
    obtain ⟨d, e9, _⟩ := DataW.trod_bool Try.underlying4 f9
    cases e9
    exact ⟨c0, c1, st, po, fl, v0, v1, da, ins, ip, sc, d, rfl, hc0, hc1, hsc⟩
end
end Go.Proofs.Qxb6601328a
