/-
  Seat b6602176a: 'Rows.FnValidUUIDAcceptsEveryEncodingSaid': the row's step.
-/
import Derived.Test.Qxb6602176aRows
import Derived.Test.Qxb6602176aUuidWalk
import Derived.ProofKit
import Derived.OpenShut
import Derived.ChangeOld
import Derived.Below
namespace Go.Proofs.Qxb6602176a.fnValidUUIDAcceptsEveryEncoding
open Go.ChangeShapes Go.WideShapes Go.ChangeAt Go.RowKit

theorem own : ownKnob Try.prog.godebug = none := by kernel_rfl
theorem laidOut : laidOutB Try.prog = true := by kernel_rfl
theorem cells26 : Try.prog.cellsOf 26 = 16 := by kernel_rfl
theorem cells5 : Try.prog.cellsOf 5 = 1 := by kernel_rfl

/-- An array of sixteen bytes, opened. -/
theorem open_bytes {H : Type} {enc : TypeId × Value → H} {W : World} {base : Nat} {v : Value} {d : DataW H} {p : List MemPlace} (hv : Value.okWide Try.prog W .any base 26 v) (h : DataW.Trod enc Try.prog W 0 (fun _ => true) true 26 v d p) :
    ∃ (cu : Array Value) (u : Nat → Int), v = .agg cu ∧ cu.size = 16 ∧ ∀ i, i < 16 → cu[i]? = some (.int .u8 (u i)) ∧ 0 ≤ u i ∧ u i ≤ 255 := by
  obtain ⟨cs, rfl, hsz⟩ : ∃ cs, v = .agg cs ∧ cs.size = 16 := by
    unfold Value.okWide at hv
    rw [Try.underlying26] at hv
    obtain ⟨cs, h1, h2, _⟩ := hv
    exact ⟨cs, h1, by rw [h2, cells26]⟩
  obtain ⟨fuel, hf⟩ := h
  obtain ⟨xs, m, _, _, _, hxl, hx⟩ := DataW.trod_array Try.underlying26 hf
  have hat : ∀ i, i < 16 → ∃ n : Int, cs[i]? = some (.int .u8 n) ∧ 0 ≤ n ∧ n ≤ 255 := by
    intro i hi
    have h1 := hx i hi
    rw [cells5, Nat.mul_one, List.getElem?_eq_getElem (by omega)] at h1
    obtain ⟨n, h2, _, h3⟩ := DataW.trod_int Try.underlying5 h1
    refine ⟨n, ?_, ?_⟩
    · have h4 : ((cs.toList.drop i).take 1)[0]? = some (.int .u8 n) := by
        rw [show ((cs.toList.drop i).take 1) = [.int .u8 n] from h2]; rfl
      rw [List.getElem?_take, if_pos (by omega), List.getElem?_drop] at h4
      simpa using h4
    · simp [Lit.wf, IntKind.min, IntKind.max, IntKind.signed, IntKind.bits] at h3
      omega
  refine ⟨cs, fun i => match cs[i]? with | some (.int _ n) => n | _ => 0, rfl, hsz, fun i hi => ?_⟩
  obtain ⟨n, h1, h2⟩ := hat i hi
  simp only [h1]
  exact ⟨trivial, h2⟩

set_option maxRecDepth 100000 in
theorem lifted (os : Os) (started : os.Started) (H : Type) (enc : TypeId × Value → H) :
    ReturnsInHanded {} Try.checked os 9 .any (Rows.fnValidUUIDAcceptsEveryEncodingSpec.pre6 enc Try.prog Try.f9 Rows.fnValidUUIDAcceptsEveryEncodingRow.domain false) (Rows.fnValidUUIDAcceptsEveryEncodingSpec.post enc Try.prog Try.f9 false true false false) := by
  refine returnsInHanded_of_change (C := Try.checked) own started (by kernel_rfl) Try.func9
    (ChangeSpec.witness6 (enc := enc) (C := Try.checked) false ⟨#[], #[.agg #[.int .u8 0, .int .u8 0, .int .u8 0, .int .u8 0, .int .u8 0, .int .u8 0, .int .u8 0, .int .u8 0, .int .u8 0, .int .u8 0, .int .u8 0, .int .u8 0, .int .u8 0, .int .u8 0, .int .u8 0, .int .u8 0], .bool false, .int .i64 0], []⟩ 8 (by kernel_rfl) (by kernel_rfl) (by kernel_rfl) (by kernel_rfl)) ?_
  intro W base args ds gs before hval0 hW hcnd _
  have hval : ∀ (j : Nat) t v, Try.f9.params[j]? = some t → args[j]? = some v → Value.okWide Try.prog W .any base t v := hval0
  have hW' := hW
  obtain ⟨p, q, hA0, hV, rfl, hfz, hnd⟩ := hW
  have hA : DataW.TrodAll enc Try.prog W 0 (fun _ => true) true Try.f9.params.toList args.toList ds p := hA0
  rw [Try.params9] at hA hval
  obtain ⟨v0, vs0, d0, ds0, p0, q0, hargs, rfl, rfl, h0, r0⟩ := trodAll_cons hA
  obtain ⟨v1, vs1, d1, ds1, p1, q1, rfl, rfl, rfl, h1, r1⟩ := trodAll_cons r0
  obtain ⟨v2, vs2, d2, ds2, p2, q2, rfl, rfl, rfl, h2, r2⟩ := trodAll_cons r1
  obtain ⟨rfl, rfl, rfl⟩ := trodAll_nil r2
  obtain rfl : args = #[v0, v1, v2] := by cases args; simp_all
  obtain ⟨rfl, rfl⟩ := trodVars_none hV
  obtain ⟨cu, u, rfl, hcu, hu⟩ := open_bytes (hval 0 26 v0 rfl rfl) h0
  have k0 := h0
  have lt0 : ∀ x ∈ p0, x.block < W.heap.size := by obtain ⟨m, hm⟩ := k0; exact DataW.trod_lt m _ _ _ hm
  obtain ⟨x1, rfl, rfl, rfl⟩ := open_bool Try.underlying4 (hval 1 4 v1 rfl rfl) h1
  obtain ⟨x2, rfl, rfl, rfl, w2⟩ := open_int Try.underlying3 (hval 2 3 v2 rfl rfl) h2
  clear hA0 hval0
  refine (uuid_walk cu hcu u hu x1 x2 W).mono fun e W' ⟨he, bel⟩ => ?_
  subst he
  exact ⟨_, rfl, _, _, _, [], _, [], hW', trodAll_mk1 (shut_bool Try.underlying4 _),
    (trodAll_cons_mk (Below.trod laidOut (by kernel_rfl) (of_decide_eq_true (by kernel_rfl)) k0 bel lt0)
    (trodAll_cons_mk (shut_bool Try.underlying4 x1)
    (trodAll_cons_mk (shut_int Try.underlying3 w2) trodAll_mk0))), rfl, bel.frame _, fun h => by cases h⟩

theorem over : Rows.fnValidUUIDAcceptsEveryEncodingRow.holds Try.pinned (OpenSpec.ofChange Rows.fnValidUUIDAcceptsEveryEncodingSpec) :=
  OpenClaim.holds_of_wide 9 Try.f9 rfl rfl rfl rfl rfl rfl rfl ⟨rfl, rfl, rfl, rfl, rfl⟩ rfl rfl rfl rfl rfl (by kernel_rfl) Try.func9 (by kernel_rfl)
    (of_decide_eq_true (by kernel_rfl)) (by unfold Func.isWrapper; first | (rw [if_pos (by decide +kernel)]; kernel_rfl) | (rw [if_neg (by decide +kernel)]; exact ⟨rfl, rfl⟩))
    (fun os started H enc _ => lifted os started H enc)
end Go.Proofs.Qxb6602176a.fnValidUUIDAcceptsEveryEncoding

namespace Go.Proofs.Qxb6602176a
/-- THE STATEMENT. -/
theorem uuid_proved : Rows.FnValidUUIDAcceptsEveryEncodingSaid := fnValidUUIDAcceptsEveryEncoding.over
end Go.Proofs.Qxb6602176a
