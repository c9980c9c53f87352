/-
  Seat b6602130a: 'Rows.FnKeySetAddAnswersWhetherSeenBeforeSaid': the row's step, after the guide's frame for a law over a slice.
-/
import Derived.Test.Qxb6602130aRows
import Derived.Test.Qxb6602130aSeenWalk
import Derived.ProofKit
import Derived.OpenShut
import Derived.ShutString
import Derived.ChangeOld
import Derived.Below
namespace Go.Proofs.Qxb6602130a.fnKeySetAddAnswersWhetherSeenBefore
open Go.ChangeShapes Go.WideShapes Go.ChangeAt Go.RowKit
open Go.ChangeMaps (open_string shut_string)

theorem own : ownKnob Try.prog.godebug = none := by kernel_rfl
theorem laidOut : laidOutB Try.prog = true := by kernel_rfl

set_option maxRecDepth 100000 in
theorem lifted (os : Os) (started : os.Started) (H : Type) (enc : TypeId × Value → H) :
    ReturnsInHanded {} Try.checked os 3 .any (Rows.fnKeySetAddAnswersWhetherSeenBeforeSpec.pre6 enc Try.prog Try.f3 Rows.fnKeySetAddAnswersWhetherSeenBeforeRow.domain false) (Rows.fnKeySetAddAnswersWhetherSeenBeforeSpec.post enc Try.prog Try.f3 false true false false) := by
  refine returnsInHanded_of_change (C := Try.checked) own started (by kernel_rfl) Try.func3
    (ChangeSpec.witness6 (enc := enc) (C := Try.checked) false ⟨#[], #[.slice none 0 0], []⟩ 8 (by kernel_rfl) (by kernel_rfl) (by kernel_rfl) (by kernel_rfl)) ?_
  intro W base args ds gs before hval0 hW hcnd _
  have hval : ∀ (j : Nat) t v, Try.f3.params[j]? = some t → args[j]? = some v → Value.okWide Try.prog W .any base t v := hval0
  have hW' := hW
  obtain ⟨p, q, hA0, hV, rfl, hfz, hnd⟩ := hW
  have hA : DataW.TrodAll enc Try.prog W 0 (fun _ => true) true Try.f3.params.toList args.toList ds p := hA0
  rw [Try.params3] at hA hval
  obtain ⟨v0, vs0, d0, ds0, p0, q0, hargs, rfl, rfl, h0, r0⟩ := trodAll_cons hA
  obtain ⟨rfl, rfl, rfl⟩ := trodAll_nil r0
  obtain rfl : args = #[v0] := by cases args; simp_all
  obtain ⟨rfl, rfl⟩ := trodVars_none hV
  obtain ⟨a0, len0, cap0, rfl⟩ := okWide_slice Try.underlying22 (hval 0 22 v0 rfl rfl)
  have k0 := h0
  have lt0 : ∀ x ∈ p0, x.block < W.heap.size := by obtain ⟨m, hm⟩ := k0; exact DataW.trod_lt m _ _ _ hm
  obtain ⟨z0, hm0, w0, s0⟩ : ∃ ss : Nat → ByteArray, len0 ≤ maxLen ∧ StrsAt W a0 len0 ss ∧ ∀ i, i < len0 → (ss i).size ≤ maxLen := by
    obtain ⟨fuel, hf⟩ := h0
    rcases open_strings Try.underlying22 Try.underlying9 (by kernel_rfl) hf with ⟨hcs, _⟩ | ⟨x, l, c, ss, hcs, _, hl, hm, hz, _, hcell, hws⟩
    · simp [Value.cells] at hcs
      obtain ⟨rfl, rfl, rfl⟩ := hcs
      exact ⟨fun _ => ByteArray.empty, Nat.zero_le _, .inl rfl, fun i h => by omega⟩
    · simp [Value.cells] at hcs
      obtain ⟨rfl, rfl, rfl⟩ := hcs
      have hz' : ss.length = cap0 := by simpa using hz
      refine ⟨fun i => ss.getD i ByteArray.empty, by omega, ?_, fun i hi => hws _ (getD_mem (by omega))⟩
      by_cases h0 : len0 = 0
      · exact .inl h0
      · obtain ⟨b, off, spot⟩ := x
        have hspot : spot = none := by simpa [Addr.add] using World.cell?_spot (hcell 0 (by omega))
        subst hspot
        refine .inr ⟨b, off, rfl, ?_, fun i hi => ?_⟩
        · have := World.block_lt_of_cell? W _ (hcell 0 (by omega))
          simpa [Addr.add] using this
        · rw [← add_plain]
          exact hcell i (by omega)
  clear hA0 hval0
  refine (seen_walk a0 cap0 len0 z0 W hm0 w0 s0).mono fun e W' ⟨he, bel⟩ => ?_
  subst he
  exact ⟨_, rfl, _, _, _, [], _, [], hW', trodAll_mk1 (shut_bool Try.underlying4 _), (trodAll_cons_mk (Below.trod laidOut (by kernel_rfl) (of_decide_eq_true (by kernel_rfl)) k0 bel lt0) trodAll_mk0), rfl, bel.frame _, fun h => by cases h⟩

theorem over : Rows.fnKeySetAddAnswersWhetherSeenBeforeRow.holds Try.pinned (OpenSpec.ofChange Rows.fnKeySetAddAnswersWhetherSeenBeforeSpec) :=
  OpenClaim.holds_of_wide 3 Try.f3 rfl rfl rfl rfl rfl rfl rfl ⟨rfl, rfl, rfl, rfl, rfl⟩ rfl rfl rfl rfl rfl (by kernel_rfl) Try.func3 (by kernel_rfl)
    (of_decide_eq_true (by kernel_rfl)) (by unfold Func.isWrapper; first | (rw [if_pos (by decide +kernel)]; kernel_rfl) | (rw [if_neg (by decide +kernel)]; exact ⟨rfl, rfl⟩))
    (fun os started H enc _ => lifted os started H enc)

/-- THE STATEMENT. -/
theorem proved : Rows.FnKeySetAddAnswersWhetherSeenBeforeSaid := over
end Go.Proofs.Qxb6602130a.fnKeySetAddAnswersWhetherSeenBefore

namespace Go.Proofs.Qxb6602130a
theorem seenBefore_proved : Rows.FnKeySetAddAnswersWhetherSeenBeforeSaid := fnKeySetAddAnswersWhetherSeenBefore.over
end Go.Proofs.Qxb6602130a
