/-
  Seat b6601328a: 'Rows.FnSnowballKeepsPreferenceOnTopSaid': the row's step, after the guide's frame for a law.
-/
import Derived.Test.Qxb6601328aRows
import Derived.Test.Qxb6601328aWalk
import Derived.Test.Qxb6601328aOpen
import Derived.ProofKit
import Derived.OpenShut
import Derived.ShutString
import Derived.ChangeOld
import Derived.Below
namespace Go.Proofs.Qxb6601328a.fnSnowball
open Go.ChangeShapes Go.WideShapes Go.ChangeAt Go.RowKit

theorem own : ownKnob Try.prog.godebug = none := by kernel_rfl
theorem laidOut : laidOutB Try.prog = true := by kernel_rfl

/-- The walk, whatever the numbers. -/
theorem walk (c0 c1 st po fl v0 v1 da ins ip sc p c beta : Int) (d succ : Bool) (w : World) (hp : 0 ≤ p) (hc : 0 ≤ c) (hsc : 0 ≤ sc) (h0 : c0 ≤ 9223372036854775807) (h1 : c1 ≤ 9223372036854775807) :
    Calls Try.prog 3 #[.agg (node c0 c1 st po fl v0 v1 da ins ip sc d), .int .u8 p, .int .u8 c, .bool succ, .int .i64 beta] w (LawPost w) := by
  by_cases h : 1 < p ∨ (succ = true ∧ 1 < c) ∨ c0 < 0 ∨ c1 < 0 ∨ c0 = 9223372036854775807 ∨ c1 = 9223372036854775807
  · exact snow_early c0 c1 st po fl v0 v1 da ins ip sc p c beta d succ w h
  · refine snow_main c0 c1 st po fl v0 v1 da ins ip sc p c beta d succ w (by omega) (fun e => ?_) (by omega) (by omega) (by omega) (by omega) hsc
    have : ¬ 1 < c := fun e2 => h (.inr (.inl ⟨e, e2⟩))
    omega

set_option maxRecDepth 100000 in
theorem lifted (os : Os) (started : os.Started) (H : Type) (enc : TypeId × Value → H) :
    ReturnsInHanded {} Try.checked os 3 .any (Rows.fnSnowballKeepsPreferenceOnTopSpec.pre6 enc Try.prog Try.f3 Rows.fnSnowballKeepsPreferenceOnTopRow.domain false) (Rows.fnSnowballKeepsPreferenceOnTopSpec.post enc Try.prog Try.f3 false true false false) := by
  refine returnsInHanded_of_change (C := Try.checked) own started (by kernel_rfl) Try.func3
    (ChangeSpec.witness6 (enc := enc) (C := Try.checked) false ⟨#[], #[.agg #[.int .i64 0, .int .i64 0, .int .i64 0, .int .i64 0, .int .i64 0, .int .i64 0, .int .i64 0, .int .i64 0, .int .i64 0, .int .u32 0, .int .u8 0, .bool false], .int .u8 0, .int .u8 0, .bool false, .int .i64 0], []⟩ 8 (by kernel_rfl) (by kernel_rfl) (by kernel_rfl) (by kernel_rfl)) ?_
  intro W base args ds gs before hval0 hW hcnd _
  have hval : ∀ (j : Nat) t v, Try.f3.params[j]? = some t → args[j]? = some v → Value.okWide Try.prog W .any base t v := hval0
  have hW' := hW
  obtain ⟨p, q, hA0, hV, rfl, hfz, hnd⟩ := hW
  have hA : DataW.TrodAll enc Try.prog W 0 (fun _ => true) true Try.f3.params.toList args.toList ds p := hA0
  rw [Try.params3] at hA hval
  obtain ⟨v0, vs0, d0, ds0, p0, q0, hargs, rfl, rfl, h0, r0⟩ := trodAll_cons hA
  obtain ⟨v1, vs1, d1, ds1, p1, q1, rfl, rfl, rfl, h1, r1⟩ := trodAll_cons r0
  obtain ⟨v2, vs2, d2, ds2, p2, q2, rfl, rfl, rfl, h2, r2⟩ := trodAll_cons r1
  obtain ⟨v3, vs3, d3, ds3, p3, q3, rfl, rfl, rfl, h3, r3⟩ := trodAll_cons r2
  obtain ⟨v4, vs4, d4, ds4, p4, q4, rfl, rfl, rfl, h4, r4⟩ := trodAll_cons r3
  obtain ⟨rfl, rfl, rfl⟩ := trodAll_nil r4
  obtain rfl : args = #[v0, v1, v2, v3, v4] := by cases args; simp_all
  obtain ⟨rfl, rfl⟩ := trodVars_none hV
  obtain ⟨cs, rfl, hcs⟩ := okWide_struct Try.underlying25 (hval 0 25 v0 rfl rfl)
  rw [Try.cells25] at hcs
  have k0 := h0
  have lt0 : ∀ x ∈ p0, x.block < W.heap.size := by obtain ⟨m, hm⟩ := k0; exact DataW.trod_lt m _ _ _ hm
  obtain ⟨c0, c1, st, po, fl, vv0, vv1, da, ins, ip, sc, dd, rfl, w0, w1, wsc⟩ : ∃ (c0 c1 st po fl v0 v1 da ins ip sc : Int) (d : Bool), cs = node c0 c1 st po fl v0 v1 da ins ip sc d ∧ (Lit.int .i64 c0).wf = true ∧ (Lit.int .i64 c1).wf = true ∧ (Lit.int .u8 sc).wf = true := by
    obtain ⟨fuel, hf⟩ := h0
    exact open_node hcs hf
  obtain ⟨a1, rfl, rfl, rfl, w2⟩ := open_int Try.underlying5 (hval 1 5 v1 rfl rfl) h1
  obtain ⟨a2, rfl, rfl, rfl, w3⟩ := open_int Try.underlying5 (hval 2 5 v2 rfl rfl) h2
  obtain ⟨a3, rfl, rfl, rfl⟩ := open_bool Try.underlying4 (hval 3 4 v3 rfl rfl) h3
  obtain ⟨a4, rfl, rfl, rfl, w4⟩ := open_int Try.underlying3 (hval 4 3 v4 rfl rfl) h4
  clear hA0 hval0
  refine (walk c0 c1 st po fl vv0 vv1 da ins ip sc a1 a2 a4 dd a3 W (bounds_u8 w2).1 (bounds_u8 w3).1 (bounds_u8 wsc).1 (bounds_i64 w0).2 (bounds_i64 w1).2).mono fun e W' ⟨he, bel⟩ => ?_
  subst he
  exact ⟨_, rfl, _, _, _, [], _, [], hW', trodAll_mk1 (shut_bool Try.underlying4 _), (trodAll_cons_mk (Below.trod laidOut (by kernel_rfl) (of_decide_eq_true (by kernel_rfl)) k0 bel lt0) (trodAll_cons_mk (shut_int Try.underlying5 w2) (trodAll_cons_mk (shut_int Try.underlying5 w3) (trodAll_cons_mk (shut_bool Try.underlying4 _) (trodAll_cons_mk (shut_int Try.underlying3 w4) trodAll_mk0))))), rfl, bel.frame _, fun h => by cases h⟩

theorem over : Rows.fnSnowballKeepsPreferenceOnTopRow.holds Try.pinned (OpenSpec.ofChange Rows.fnSnowballKeepsPreferenceOnTopSpec) :=
  OpenClaim.holds_of_wide 3 Try.f3 rfl rfl rfl rfl rfl rfl rfl ⟨rfl, rfl, rfl, rfl, rfl⟩ rfl rfl rfl rfl rfl (by kernel_rfl) Try.func3 (by kernel_rfl)
    (of_decide_eq_true (by kernel_rfl)) (by unfold Func.isWrapper; first | (rw [if_pos (by decide +kernel)]; kernel_rfl) | (rw [if_neg (by decide +kernel)]; exact ⟨rfl, rfl⟩))
    (fun os started H enc _ => lifted os started H enc)
end Go.Proofs.Qxb6601328a.fnSnowball

namespace Go.Proofs.Qxb6601328a
/-- THE STATEMENT. -/
theorem snowball_proved : Rows.FnSnowballKeepsPreferenceOnTopSaid := fnSnowball.over
end Go.Proofs.Qxb6601328a
