/-
  Seat b6601328a: the early ways out of 'FnSnowballKeepsPreferenceOnTop' (3).
-/
import Derived.Test.Qxb6601328aPlain
import Derived.Test.Qxb6601328aFields
import Derived.Deep.Cut
namespace Go.Proofs.Qxb6601328a
open Go.RowKit

/-- What the law's call leaves. -/
def LawPost (w : World) (e : Ending) (w' : World) : Prop := e = .returned (.bool true) ∧ Below w.heap.size w w'

set_option maxHeartbeats 4000000 in
set_option maxRecDepth 100000 in
theorem snow_early (c0 c1 st po fl v0 v1 da ins ip sc p c beta : Int) (d succ : Bool) (w : World)
    (h : 1 < p ∨ (succ = true ∧ 1 < c) ∨ c0 < 0 ∨ c1 < 0 ∨ c0 = 9223372036854775807 ∨ c1 = 9223372036854775807) :
    Calls Try.prog 3 #[.agg #[.int .i64 c0, .int .i64 c1, .int .i64 st, .int .i64 po, .int .i64 fl, .int .i64 v0, .int .i64 v1, .int .i64 da, .int .i64 ins, .int .u32 ip, .int .u8 sc, .bool d], .int .u8 p, .int .u8 c, .bool succ, .int .i64 beta] w (LawPost w) := by
  by_cases h1 : 1 < p
  · clear h
    go_enter Try.func3, Try.ntmps3
    go_wp2
    go_ret
    exact ⟨rfl, (Below.refl _ _).alloc (Nat.le_refl _) _⟩
  by_cases h2 : succ = true ∧ 1 < c
  · obtain ⟨rfl, h2⟩ := h2
    clear h
    go_enter Try.func3, Try.ntmps3
    go_wp2
    go_ret
    exact ⟨rfl, (Below.refl _ _).alloc (Nat.le_refl _) _⟩
  have hc : succ = true → ¬ 1 < c := fun e hh => h2 ⟨e, hh⟩
  clear h2
  by_cases h3 : c0 < 0
  · have hd0 : decide (c0 < 0) = true := decide_eq_true h3
    clear h
    cases succ
    · clear hc
      go_enter Try.func3, Try.ntmps3
      go_wp2
      go_ret
      exact ⟨rfl, (Below.refl _ _).alloc (Nat.le_refl _) _⟩
    · have hc1 := hc rfl
      clear hc
      go_enter Try.func3, Try.ntmps3
      go_wp2
      go_ret
      exact ⟨rfl, (Below.refl _ _).alloc (Nat.le_refl _) _⟩
  have hd0 : decide (c0 < 0) = false := decide_eq_false h3
  by_cases h4 : c1 < 0
  · have hd1 : decide (c1 < 0) = true := decide_eq_true h4
    clear h
    cases succ
    · clear hc
      go_enter Try.func3, Try.ntmps3
      go_wp2
      go_ret
      exact ⟨rfl, (Below.refl _ _).alloc (Nat.le_refl _) _⟩
    · have hc1 := hc rfl
      clear hc
      go_enter Try.func3, Try.ntmps3
      go_wp2
      go_ret
      exact ⟨rfl, (Below.refl _ _).alloc (Nat.le_refl _) _⟩
  have hd1 : decide (c1 < 0) = false := decide_eq_false h4
  by_cases h5 : c0 = 9223372036854775807
  · have hd2 : (c0 == 9223372036854775807) = true := beq_iff_eq.2 h5
    clear h
    cases succ
    · clear hc
      go_enter Try.func3, Try.ntmps3
      go_wp2
      go_ret
      exact ⟨rfl, (Below.refl _ _).alloc (Nat.le_refl _) _⟩
    · have hc1 := hc rfl
      clear hc
      go_enter Try.func3, Try.ntmps3
      go_wp2
      go_ret
      exact ⟨rfl, (Below.refl _ _).alloc (Nat.le_refl _) _⟩
  have hd2 : (c0 == 9223372036854775807) = false := beq_eq_false_iff_ne.2 h5
  by_cases h6 : c1 = 9223372036854775807
  · have hd3 : (c1 == 9223372036854775807) = true := beq_iff_eq.2 h6
    clear h
    cases succ
    · clear hc
      go_enter Try.func3, Try.ntmps3
      go_wp2
      go_ret
      exact ⟨rfl, (Below.refl _ _).alloc (Nat.le_refl _) _⟩
    · have hc1 := hc rfl
      clear hc
      go_enter Try.func3, Try.ntmps3
      go_wp2
      go_ret
      exact ⟨rfl, (Below.refl _ _).alloc (Nat.le_refl _) _⟩
  exfalso
  rcases h with h | h | h | h | h | h
  · exact h1 h
  · exact hc h.1 h.2
  · exact h3 h
  · exact h4 h
  · exact h5 h
  · exact h6 h
end Go.Proofs.Qxb6601328a
