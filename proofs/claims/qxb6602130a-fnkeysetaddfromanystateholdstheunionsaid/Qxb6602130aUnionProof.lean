/-
  Seat b6602130a: 'Rows.FnKeySetAddFromAnyStateHoldsTheUnionSaid': the row's step.
-/
import Derived.Test.Qxb6602130aRows
import Derived.Test.Qxb6602130aUnionKeys
import Derived.Test.Qxb6602130aUnionOut
import Derived.Test.Qxb6602130aUnionNil
import Derived.Test.Qxb6602130aUnionMade
import Derived.ProofKit
import Derived.OpenShut
import Derived.ShutString
import Derived.ChangeOld
import Derived.Below
import Derived.Deep.Slices
namespace Go.Proofs.Qxb6602130a
open Go.RowKit

/-- The walk, all cases together. -/
theorem union_walk (few : Nat → ByteArray) (nn : Int) (a : Option Addr) (cap n : Nat) (ss : Nat → ByteArray) (a2 : Option Addr) (cap2 n2 : Nat) (bs : Nat → Bool) (mnil : Bool) (k : ByteArray) (hks : k.size ≤ maxLen) (hfs : ∀ i, i < 16 → (few i).size ≤ maxLen) (hss : ∀ i, i < n → (ss i).size ≤ maxLen) (w : World) (hm : n ≤ maxLen) (hm2 : n2 ≤ maxLen) (hs : StrsAt w a n ss) (hs2 : BoolsAt w a2 n2 bs) :
    Calls Try.prog 4 #[.agg #[.string (few 0), .string (few 1), .string (few 2), .string (few 3), .string (few 4), .string (few 5), .string (few 6), .string (few 7), .string (few 8), .string (few 9), .string (few 10), .string (few 11), .string (few 12), .string (few 13), .string (few 14), .string (few 15)], .int .i64 nn, .slice a n cap, .slice a2 n2 cap2, .bool mnil, .string k] w fun e w' => e = .returned (.bool true) ∧ Below w.heap.size w w' := by
  by_cases hbad : 4096 < n ∨ 4096 < n2 ∨ 1048576 < k.size
  · exact union_early few nn a cap n ss a2 cap2 n2 bs mnil k hks hfs hss w hm hm2 hs hs2 hbad
  have hsm : n ≤ 4096 := by omega
  have hsm2 : n2 ≤ 4096 := by omega
  have hkm : k.size ≤ 1048576 := by omega
  rcases Nat.eq_zero_or_pos n with hz | hpos
  · by_cases hr : nn < 0 ∨ 16 < nn
    · exact union_out few nn a cap n ss a2 cap2 n2 bs mnil k hks hfs hss w hm hm2 hs hs2 hsm hsm2 hkm hz hr
    · cases hmn : mnil with
      | true => exact union_nil few nn a cap n ss a2 cap2 n2 bs true k hks hfs hss w hm hm2 hs hs2 hsm hsm2 hkm hz (by omega) (by omega) rfl
      | false => exact union_made few nn a cap n ss a2 cap2 n2 bs false k hks hfs hss w hm hm2 hs hs2 hsm hsm2 hkm hz (by omega) (by omega) rfl
  · exact union_keys few nn a cap n ss a2 cap2 n2 bs mnil k hks hfs hss w hm hm2 hs hs2 hsm hsm2 hkm hpos
end Go.Proofs.Qxb6602130a

namespace Go.Proofs.Qxb6602130a.fnKeySetAddFromAnyStateHoldsTheUnion
open Go.ChangeShapes Go.WideShapes Go.ChangeAt Go.RowKit Go.Deep
open Go.ChangeMaps (open_string shut_string)

theorem own : ownKnob Try.prog.godebug = none := by kernel_rfl
theorem laidOut : laidOutB Try.prog = true := by kernel_rfl
theorem cells25 : Try.prog.cellsOf 25 = 16 := by kernel_rfl
theorem cells9 : Try.prog.cellsOf 9 = 1 := by kernel_rfl
theorem cells4 : Try.prog.cellsOf 4 = 1 := by kernel_rfl

/-- An array of sixteen strings, opened. -/
theorem open_few {H : Type} {enc : TypeId × Value → H} {W : World} {base : Nat} {v : Value} {d : DataW H} {p : List MemPlace} (hv : Value.okWide Try.prog W .any base 25 v) (h : DataW.Trod enc Try.prog W 0 (fun _ => true) true 25 v d p) :
    ∃ few : Nat → ByteArray, v = .agg #[.string (few 0), .string (few 1), .string (few 2), .string (few 3), .string (few 4), .string (few 5), .string (few 6), .string (few 7), .string (few 8), .string (few 9), .string (few 10), .string (few 11), .string (few 12), .string (few 13), .string (few 14), .string (few 15)] ∧ ∀ i, i < 16 → (few i).size ≤ maxLen := by
  obtain ⟨cs, rfl, hsz⟩ : ∃ cs, v = .agg cs ∧ cs.size = 16 := by
    unfold Value.okWide at hv
    rw [Try.underlying25] at hv
    obtain ⟨cs, h1, h2, _⟩ := hv
    exact ⟨cs, h1, by rw [h2, cells25]⟩
  obtain ⟨fuel, hf⟩ := h
  obtain ⟨xs, m, _, _, _, hxl, hx⟩ := DataW.trod_array Try.underlying25 hf
  have hat : ∀ i, i < 16 → ∃ s : ByteArray, cs[i]? = some (.string s) ∧ s.size ≤ maxLen := by
    intro i hi
    have h1 := hx i hi
    rw [cells9, Nat.mul_one, List.getElem?_eq_getElem (by omega)] at h1
    obtain ⟨s, h2, _, h3⟩ := DataW.trod_string Try.underlying9 h1
    refine ⟨s, ?_, h3⟩
    have h4 : ((cs.toList.drop i).take 1)[0]? = some (.string s) := by
      rw [show ((cs.toList.drop i).take 1) = [.string s] from h2]; rfl
    rw [List.getElem?_take, if_pos (by omega), List.getElem?_drop] at h4
    simpa using h4
  refine ⟨fun i => match cs[i]? with | some (.string s) => s | _ => ByteArray.empty, ?_, ?_⟩
  · congr 1
    refine Array.ext_getElem? (fun i => ?_)
    by_cases hi : i < 16
    · obtain ⟨s, h1, _⟩ := hat i hi
      have := few16_at (fun i => match cs[i]? with | some (.string s) => s | _ => ByteArray.empty) i hi
      refine Eq.trans ?_ this.symm
      simp [h1]
    · rw [Array.getElem?_eq_none (by omega), Array.getElem?_eq_none (by show 16 ≤ i; omega)]
  · intro i hi
    obtain ⟨s, h1, h2⟩ := hat i hi
    simpa [h1] using h2

/-- A slice of strings, opened. -/
theorem open_keys {H : Type} {enc : TypeId × Value → H} {W : World} {a0 : Option Addr} {len0 cap0 : Nat} {d : DataW H} {p : List MemPlace} (h : DataW.Trod enc Try.prog W 0 (fun _ => true) true 22 (.slice a0 len0 cap0) d p) :
    ∃ ss : Nat → ByteArray, len0 ≤ maxLen ∧ StrsAt W a0 len0 ss ∧ ∀ i, i < len0 → (ss i).size ≤ maxLen := by
  obtain ⟨fuel, hf⟩ := h
  rcases open_strings Try.underlying22 Try.underlying9 cells9 hf with ⟨hcs, _⟩ | ⟨x, l, c, ss, hcs, _, hl, hm, hz, _, hcell, hws⟩
  · simp [Value.cells] at hcs
    obtain ⟨rfl, rfl, rfl⟩ := hcs
    exact ⟨fun _ => ByteArray.empty, Nat.zero_le _, .inl rfl, fun i h => by omega⟩
  · simp [Value.cells] at hcs
    obtain ⟨rfl, rfl, rfl⟩ := hcs
    have hz' : ss.length = cap0 := by simpa using hz
    refine ⟨fun i => ss.getD i ByteArray.empty, by omega, ?_, fun i hi => hws _ (getD_mem (by omega))⟩
    by_cases h0 : len0 = 0
    · exact .inl h0
    · obtain ⟨b, off, spot⟩ := x
      have hspot : spot = none := by simpa [Addr.add] using World.cell?_spot (hcell 0 (by omega))
      subst hspot
      refine .inr ⟨b, off, rfl, ?_, fun i hi => ?_⟩
      · have := World.block_lt_of_cell? W _ (hcell 0 (by omega))
        simpa [Addr.add] using this
      · rw [← add_plain]
        exact hcell i (by omega)

/-- A slice of bools, opened. -/
theorem open_vals {H : Type} {enc : TypeId × Value → H} {W : World} {a0 : Option Addr} {len0 cap0 : Nat} {d : DataW H} {p : List MemPlace} (h : DataW.Trod enc Try.prog W 0 (fun _ => true) true 34 (.slice a0 len0 cap0) d p) :
    ∃ bs : Nat → Bool, len0 ≤ maxLen ∧ BoolsAt W a0 len0 bs := by
  obtain ⟨fuel, hf⟩ := h
  rcases open_slice1 Try.underlying34 cells4 hf with ⟨hcs, _⟩ | ⟨x, l, c, m, n, V, D, Pl, hcs, _, hl, hm, hmm, _, hcell⟩
  · simp [Value.cells] at hcs
    obtain ⟨rfl, rfl, rfl⟩ := hcs
    exact ⟨fun _ => false, Nat.zero_le _, .inl rfl⟩
  · simp [Value.cells] at hcs
    obtain ⟨rfl, rfl, rfl⟩ := hcs
    have hm' : m = cap0 := by simpa using hmm
    have hV : ∀ i, i < len0 → ∃ b : Bool, V i = .bool b := fun i hi => by
      obtain ⟨b, h1, _⟩ := DataW.trod_bool Try.underlying4 (hcell i (by omega)).2
      exact ⟨b, by simpa using h1⟩
    refine ⟨fun i => match V i with | .bool b => b | _ => false, by omega, ?_⟩
    by_cases h0 : len0 = 0
    · exact .inl h0
    · obtain ⟨b, off, spot⟩ := x
      have hspot : spot = none := by simpa [Addr.add] using World.cell?_spot (hcell 0 (by omega)).1
      subst hspot
      refine .inr ⟨b, off, rfl, ?_, fun i hi => ?_⟩
      · have := World.block_lt_of_cell? W _ (hcell 0 (by omega)).1
        simpa [Addr.add] using this
      · obtain ⟨y, hy⟩ := hV i hi
        rw [← add_plain, (hcell i (by omega)).1]
        simp only [hy]

set_option maxRecDepth 100000 in
theorem lifted (os : Os) (started : os.Started) (H : Type) (enc : TypeId × Value → H) :
    ReturnsInHanded {} Try.checked os 4 .any (Rows.fnKeySetAddFromAnyStateHoldsTheUnionSpec.pre6 enc Try.prog Try.f4 Rows.fnKeySetAddFromAnyStateHoldsTheUnionRow.domain false) (Rows.fnKeySetAddFromAnyStateHoldsTheUnionSpec.post enc Try.prog Try.f4 false true false false) := by
  refine returnsInHanded_of_change (C := Try.checked) own started (by kernel_rfl) Try.func4
    (ChangeSpec.witness6 (enc := enc) (C := Try.checked) false ⟨#[], #[.agg #[.string ⟨#[]⟩, .string ⟨#[]⟩, .string ⟨#[]⟩, .string ⟨#[]⟩, .string ⟨#[]⟩, .string ⟨#[]⟩, .string ⟨#[]⟩, .string ⟨#[]⟩, .string ⟨#[]⟩, .string ⟨#[]⟩, .string ⟨#[]⟩, .string ⟨#[]⟩, .string ⟨#[]⟩, .string ⟨#[]⟩, .string ⟨#[]⟩, .string ⟨#[]⟩], .int .i64 0, .slice none 0 0, .slice none 0 0, .bool false, .string ⟨#[]⟩], []⟩ 8 (by kernel_rfl) (by kernel_rfl) (by kernel_rfl) (by kernel_rfl)) ?_
  intro W base args ds gs before hval0 hW hcnd _
  have hval : ∀ (j : Nat) t v, Try.f4.params[j]? = some t → args[j]? = some v → Value.okWide Try.prog W .any base t v := hval0
  have hW' := hW
  obtain ⟨p, q, hA0, hV, rfl, hfz, hnd⟩ := hW
  have hA : DataW.TrodAll enc Try.prog W 0 (fun _ => true) true Try.f4.params.toList args.toList ds p := hA0
  rw [Try.params4] at hA hval
  obtain ⟨v0, vs0, d0, ds0, p0, q0, hargs, rfl, rfl, h0, r0⟩ := trodAll_cons hA
  obtain ⟨v1, vs1, d1, ds1, p1, q1, rfl, rfl, rfl, h1, r1⟩ := trodAll_cons r0
  obtain ⟨v2, vs2, d2, ds2, p2, q2, rfl, rfl, rfl, h2, r2⟩ := trodAll_cons r1
  obtain ⟨v3, vs3, d3, ds3, p3, q3, rfl, rfl, rfl, h3, r3⟩ := trodAll_cons r2
  obtain ⟨v4, vs4, d4, ds4, p4, q4, rfl, rfl, rfl, h4, r4⟩ := trodAll_cons r3
  obtain ⟨v5, vs5, d5, ds5, p5, q5, rfl, rfl, rfl, h5, r5⟩ := trodAll_cons r4
  obtain ⟨rfl, rfl, rfl⟩ := trodAll_nil r5
  obtain rfl : args = #[v0, v1, v2, v3, v4, v5] := by cases args; simp_all
  obtain ⟨rfl, rfl⟩ := trodVars_none hV
  obtain ⟨few, rfl, hfs⟩ := open_few (hval 0 25 v0 rfl rfl) h0
  obtain ⟨a2, len2, cap2, rfl⟩ := okWide_slice Try.underlying22 (hval 2 22 v2 rfl rfl)
  obtain ⟨a3, len3, cap3, rfl⟩ := okWide_slice Try.underlying34 (hval 3 34 v3 rfl rfl)
  have k0 := h0
  have k2 := h2
  have k3 := h3
  have lt0 : ∀ x ∈ p0, x.block < W.heap.size := by obtain ⟨m, hm⟩ := k0; exact DataW.trod_lt m _ _ _ hm
  have lt2 : ∀ x ∈ p2, x.block < W.heap.size := by obtain ⟨m, hm⟩ := k2; exact DataW.trod_lt m _ _ _ hm
  have lt3 : ∀ x ∈ p3, x.block < W.heap.size := by obtain ⟨m, hm⟩ := k3; exact DataW.trod_lt m _ _ _ hm
  obtain ⟨x1, rfl, rfl, rfl, w1⟩ := open_int Try.underlying3 (hval 1 3 v1 rfl rfl) h1
  obtain ⟨ss, hm2, w2, s2⟩ := open_keys h2
  obtain ⟨bs, hm3, w3⟩ := open_vals h3
  obtain ⟨x4, rfl, rfl, rfl⟩ := open_bool Try.underlying4 (hval 4 4 v4 rfl rfl) h4
  obtain ⟨x5, rfl, rfl, rfl, w5⟩ := open_string Try.underlying9 (hval 5 9 v5 rfl rfl) h5
  clear hA0 hval0
  refine (union_walk few x1 a2 cap2 len2 ss a3 cap3 len3 bs x4 x5 w5 hfs s2 W hm2 hm3 w2 w3).mono fun e W' ⟨he, bel⟩ => ?_
  subst he
  exact ⟨_, rfl, _, _, _, [], _, [], hW', trodAll_mk1 (shut_bool Try.underlying4 _),
    (trodAll_cons_mk (Below.trod laidOut (by kernel_rfl) (of_decide_eq_true (by kernel_rfl)) k0 bel lt0)
    (trodAll_cons_mk (shut_int Try.underlying3 w1)
    (trodAll_cons_mk (Below.trod laidOut (by kernel_rfl) (of_decide_eq_true (by kernel_rfl)) k2 bel lt2)
    (trodAll_cons_mk (Below.trod laidOut (by kernel_rfl) (of_decide_eq_true (by kernel_rfl)) k3 bel lt3)
    (trodAll_cons_mk (shut_bool Try.underlying4 x4)
    (trodAll_cons_mk (shut_string Try.underlying9 w5) trodAll_mk0)))))), rfl, bel.frame _, fun h => by cases h⟩

theorem over : Rows.fnKeySetAddFromAnyStateHoldsTheUnionRow.holds Try.pinned (OpenSpec.ofChange Rows.fnKeySetAddFromAnyStateHoldsTheUnionSpec) :=
  OpenClaim.holds_of_wide 4 Try.f4 rfl rfl rfl rfl rfl rfl rfl ⟨rfl, rfl, rfl, rfl, rfl⟩ rfl rfl rfl rfl rfl (by kernel_rfl) Try.func4 (by kernel_rfl)
    (of_decide_eq_true (by kernel_rfl)) (by unfold Func.isWrapper; first | (rw [if_pos (by decide +kernel)]; kernel_rfl) | (rw [if_neg (by decide +kernel)]; exact ⟨rfl, rfl⟩))
    (fun os started H enc _ => lifted os started H enc)
end Go.Proofs.Qxb6602130a.fnKeySetAddFromAnyStateHoldsTheUnion

namespace Go.Proofs.Qxb6602130a
/-- THE STATEMENT. -/
theorem union_proved : Rows.FnKeySetAddFromAnyStateHoldsTheUnionSaid := fnKeySetAddFromAnyStateHoldsTheUnion.over
end Go.Proofs.Qxb6602130a
