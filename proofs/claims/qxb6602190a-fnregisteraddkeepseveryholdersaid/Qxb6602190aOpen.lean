/-
  Seat b6602190a: a slice of holders, as an argument, laid open.
-/
import Derived.Test.Qxb6602190aHold
import Derived.Deep.Slices
import Derived.Deep.Fields
namespace Go.Proofs.Qxb6602190a
open Go.ChangeShapes Go.WideShapes Go.Deep

theorem Try.cells32 : Try.prog.cellsOf 32 = 3 := by kernel_rfl
theorem Try.cells9 : Try.prog.cellsOf 9 = 1 := by kernel_rfl
theorem Try.cells2 : Try.prog.cellsOf 2 = 1 := by kernel_rfl

theorem open_holder {H : Type} {enc : TypeId × Value → H} {W : World} {base : Nat} {spare : Nat → Bool} {held : Bool} {fuel : Nat} {cs : List Value} {x : DataW H × List MemPlace} (hl : cs.length = 3)
    (h : DataW.trod enc Try.prog W base spare held fuel 32 cs = some x) : ∃ (s : ByteArray) (a b : Int), cs = [.string s, .int .i64 a, .int .i64 b] ∧ s.size ≤ maxLen := by
  obtain ⟨xs, n, _, _, _, hxl, hf⟩ := DataW.trod_struct Try.underlying32 h
  match cs, hl with
  | [c0, c1, c2], _ =>
    have hxl3 : xs.length = 3 := hxl
    have f0 : DataW.trod enc Try.prog W base spare held n 9 (([c0, c1, c2].drop 0).take (Try.prog.cellsOf 9)) = xs[0]? := hf 0 _ rfl
    rw [Try.cells9, List.getElem?_eq_getElem (show 0 < xs.length by omega)] at f0
    change DataW.trod enc Try.prog W base spare held n 9 [c0] = _ at f0
    have f1 : DataW.trod enc Try.prog W base spare held n 2 (([c0, c1, c2].drop 1).take (Try.prog.cellsOf 2)) = xs[1]? := hf 1 _ rfl
    rw [Try.cells2, List.getElem?_eq_getElem (show 1 < xs.length by omega)] at f1
    change DataW.trod enc Try.prog W base spare held n 2 [c1] = _ at f1
    have f2 : DataW.trod enc Try.prog W base spare held n 2 (([c0, c1, c2].drop 2).take (Try.prog.cellsOf 2)) = xs[2]? := hf 2 _ rfl
    rw [Try.cells2, List.getElem?_eq_getElem (show 2 < xs.length by omega)] at f2
    change DataW.trod enc Try.prog W base spare held n 2 [c2] = _ at f2
    obtain ⟨s, h0, _, hs⟩ := DataW.trod_string Try.underlying9 f0
    obtain ⟨a, h1, _⟩ := DataW.trod_int Try.underlying2 f1
    obtain ⟨b, h2, _⟩ := DataW.trod_int Try.underlying2 f2
    cases h0
    cases h1
    cases h2
    exact ⟨s, a, b, rfl, hs⟩

theorem open_holders {H : Type} {enc : TypeId × Value → H} {W : World} {base : Nat} {spare : Nat → Bool} {held : Bool} {fuel : Nat} {a : Option Addr} {len cap : Nat} {x : DataW H × List MemPlace}
    (h : DataW.trod enc Try.prog W base spare held fuel 29 [.slice a len cap] = some x) :
    len ≤ maxLen ∧ ∃ (cs : Nat → ByteArray) (ss tt : Nat → Int), HoldAt W a len cs ss tt ∧ ∀ i, i < len → (cs i).size ≤ maxLen := by
  rcases open_slice Try.underlying29 h with ⟨hcs, _⟩ | ⟨ad, l, c, m, n, D, Pl, hcs, hb, hl, hm, hmm, _, hx⟩
  · cases hcs
    exact ⟨Nat.zero_le _, fun _ => ByteArray.empty, fun _ => 0, fun _ => 0, .inl rfl, fun i h => by omega⟩
  · cases hcs
    have hlm : len ≤ m := by rw [hmm]; split <;> omega
    refine ⟨by omega, ?_⟩
    obtain ⟨f, hf⟩ := choose_lt (α := ByteArray × Int × Int) (p := fun i p => W.cell? (ad.add (i * 3)) = some (.string p.1) ∧ W.cell? ((ad.add (i * 3)).add 1) = some (.int .i64 p.2.1) ∧ W.cell? ((ad.add (i * 3)).add 2) = some (.int .i64 p.2.2) ∧ p.1.size ≤ maxLen) (n := len) (fun i hi => by
      obtain ⟨cs', h1, h2⟩ := hx i (by omega)
      rw [Try.cells32] at h1
      obtain ⟨_, hlen, hcell⟩ := World.cells?_some h1
      obtain ⟨s, p, q, rfl, hs⟩ := open_holder hlen h2
      have e0 := hcell 0 (by omega)
      have e1 := hcell 1 (by omega)
      have e2 := hcell 2 (by omega)
      exact ⟨(s, p, q), by simpa [Addr.add] using e0, e1, e2, hs⟩)
    refine ⟨fun i => (f i).1, fun i => (f i).2.1, fun i => (f i).2.2, ?_, fun i hi => (hf i hi).2.2.2⟩
    by_cases h0 : len = 0
    · exact .inl h0
    · obtain ⟨b, off, spot⟩ := ad
      have hspot : spot = none := by simpa [Addr.add] using World.cell?_spot (hf 0 (by omega)).1
      subst hspot
      refine .inr ⟨b, off, rfl, ?_, fun i hi => ?_⟩
      · have := World.block_lt_of_cell? W _ (hf 0 (by omega)).1
        simpa [Addr.add] using this
      · obtain ⟨h1, h2, h3, _⟩ := hf i hi
        simp only [add_plain] at h1 h2 h3
        exact ⟨h1, h2, h3⟩
end Go.Proofs.Qxb6602190a
