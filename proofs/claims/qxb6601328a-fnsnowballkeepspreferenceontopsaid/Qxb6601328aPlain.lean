/-
  Seat b6601328a: what snowball does to the confidences, the streak and the preference, as plain numbers; ZZSnowball (5).
-/
import Derived.Test.Qxb6601328aSnow
namespace Go.Proofs.Qxb6601328a
open Go.RowKit

/-- The confidence of colour p. -/
def conf (c0 c1 p : Int) : Int := if p = 0 then c0 else c1

/-- What the law supposes of a node. -/
structure Pre (c0 c1 st sc p : Int) : Prop where
  pref : p = 0 ∨ p = 1
  lo0 : 0 ≤ c0
  hi0 : c0 < 9223372036854775807
  lo1 : 0 ≤ c1
  hi1 : c1 < 9223372036854775807
  top : conf c0 c1 (1 - p) ≤ conf c0 c1 p
  st0 : 0 ≤ st
  run : 0 < st → (sc = 0 ∨ sc = 1) ∧ st ≤ conf c0 c1 sc

/-- What it says of the node afterwards. -/
structure After (c0 c1 p : Int) (succ : Bool) (d0 d1 st sc np : Int) : Prop where
  pref : np = 0 ∨ np = 1
  top : conf d0 d1 (1 - np) ≤ conf d0 d1 np
  moved : np ≠ p → conf d0 d1 p < conf d0 d1 np
  st0 : 0 ≤ st
  run : 0 < st → (sc = 0 ∨ sc = 1) ∧ st ≤ conf d0 d1 sc
  up0 : c0 ≤ d0
  up1 : c1 ≤ d1
  sum : d0 + d1 = c0 + c1 + if succ then 1 else 0

theorem after_fail {c0 c1 st sc p : Int} (h : Pre c0 c1 st sc p) : After c0 c1 p false c0 c1 0 sc p :=
  ⟨h.pref, h.top, fun e => absurd rfl e, by omega, fun e => by omega, Int.le_refl _, Int.le_refl _, by simp⟩

theorem after_00 {c0 c1 st sc : Int} (h : Pre c0 c1 st sc 0) : After c0 c1 0 true (c0 + 1) c1 (if 0 = sc then st + 1 else 1) 0 0 := by
  obtain ⟨_, a, b, c, d, top, s, run⟩ := h
  simp [conf] at top run
  refine ⟨.inl rfl, ?_, fun e => absurd rfl e, ?_, fun _ => ⟨.inl rfl, ?_⟩, by omega, by omega, by simp; omega⟩
  · simp [conf]; omega
  · split <;> omega
  · simp [conf]; split
    · rename_i e
      subst e
      simp at run
      omega
    · omega

theorem after_11 {c0 c1 st sc : Int} (h : Pre c0 c1 st sc 1) : After c0 c1 1 true c0 (c1 + 1) (if 1 = sc then st + 1 else 1) 1 1 := by
  obtain ⟨_, a, b, c, d, top, s, run⟩ := h
  simp [conf] at top run
  refine ⟨.inr rfl, ?_, fun e => absurd rfl e, ?_, fun _ => ⟨.inr rfl, ?_⟩, by omega, by omega, by simp; omega⟩
  · simp [conf]; omega
  · split <;> omega
  · simp [conf]; split
    · rename_i e
      subst e
      simp at run
      omega
    · omega

/-- The poll succeeded for Red; Blue is preferred. -/
theorem after_01 {c0 c1 st sc : Int} (h : Pre c0 c1 st sc 1) : After c0 c1 1 true (c0 + 1) c1 (if 0 = sc then st + 1 else 1) 0 (if c1 < c0 + 1 then 0 else 1) := by
  obtain ⟨_, a, b, c, d, top, s, run⟩ := h
  simp [conf] at top run
  by_cases hlt : c1 < c0 + 1
  · rw [if_pos hlt]
    refine ⟨.inl rfl, ?_, fun _ => ?_, ?_, fun _ => ⟨.inl rfl, ?_⟩, by omega, by omega, by simp; omega⟩
    · simp [conf]; omega
    · simp [conf]; omega
    · split <;> omega
    · simp [conf]; split
      · rename_i e
        subst e
        simp at run
        omega
      · omega
  · rw [if_neg hlt]
    refine ⟨.inr rfl, ?_, fun e => absurd rfl e, ?_, fun _ => ⟨.inl rfl, ?_⟩, by omega, by omega, by simp; omega⟩
    · simp [conf]; omega
    · split <;> omega
    · simp [conf]; split
      · rename_i e
        subst e
        simp at run
        omega
      · omega

/-- The poll succeeded for Blue; Red is preferred. -/
theorem after_10 {c0 c1 st sc : Int} (h : Pre c0 c1 st sc 0) : After c0 c1 0 true c0 (c1 + 1) (if 1 = sc then st + 1 else 1) 1 (if c0 < c1 + 1 then 1 else 0) := by
  obtain ⟨_, a, b, c, d, top, s, run⟩ := h
  simp [conf] at top run
  by_cases hlt : c0 < c1 + 1
  · rw [if_pos hlt]
    refine ⟨.inr rfl, ?_, fun _ => ?_, ?_, fun _ => ⟨.inr rfl, ?_⟩, by omega, by omega, by simp; omega⟩
    · simp [conf]; omega
    · simp [conf]; omega
    · split <;> omega
    · simp [conf]; split
      · rename_i e
        subst e
        simp at run
        omega
      · omega
  · rw [if_neg hlt]
    refine ⟨.inl rfl, ?_, fun e => absurd rfl e, ?_, fun _ => ⟨.inr rfl, ?_⟩, by omega, by omega, by simp; omega⟩
    · simp [conf]; omega
    · split <;> omega
    · simp [conf]; split
      · rename_i e
        subst e
        simp at run
        omega
      · omega

/-- The streak is below the greatest int. -/
theorem Pre.st1 {c0 c1 st sc p : Int} (h : Pre c0 c1 st sc p) : st < 9223372036854775807 := by
  obtain ⟨_, a, b, c, d, _, s, run⟩ := h
  by_cases e : 0 < st
  · obtain ⟨h1, h2⟩ := run e
    rcases h1 with rfl | rfl <;> simp [conf] at h2 <;> omega
  · omega

/-- What a call of snowball leaves. -/
def SnowPost (b pb : Nat) (c0 c1 po fl v0 v1 da ins ip p : Int) (succ : Bool) (w : World) (e : Ending) (w' : World) : Prop :=
  e = .returned (.tuple #[]) ∧ ∃ (d0 d1 st sc np : Int) (d : Bool), w'.heap[b]? = some (.cells (node d0 d1 st po fl v0 v1 da ins ip sc d) 37 (0, 0)) ∧ w'.heap[pb]? = some (.cells #[.int .u8 np] 28 (0, 0)) ∧ After c0 c1 p succ d0 d1 st sc np ∧ Kept (fun i => i = b ∨ i = pb) w w'

theorem snow8_any (b pb : Nat) (c0 c1 st po fl v0 v1 da ins ip sc c p beta : Int) (d succ : Bool) (w : World) (h : w.heap[b]? = some (.cells (node c0 c1 st po fl v0 v1 da ins ip sc d) 37 (0, 0))) (hp : w.heap[pb]? = some (.cells #[.int .u8 p] 28 (0, 0))) (hne : b ≠ pb)
    (hpre : Pre c0 c1 st sc p) (hc : succ = true → c = 0 ∨ c = 1) :
    Calls Try.prog 8 #[.pointer (some ⟨b, 0, none⟩), .pointer (some ⟨pb, 0, none⟩), .int .u8 c, .bool succ, .int .i64 beta] w (SnowPost b pb c0 c1 po fl v0 v1 da ins ip p succ w) := by
  cases succ with
  | false =>
    refine (snow8_fail b pb c0 c1 st po fl v0 v1 da ins ip sc c beta d w h).mono ?_
    rintro e w' ⟨he, h1, h2⟩
    exact ⟨he, _, _, _, _, p, _, h1, (h2.block pb (Array.getElem?_eq_some_iff.1 hp).1 (Ne.symm hne)).trans hp, after_fail hpre, (Kept.refl _ w).trans h2 (fun _ _ e => .inl e)⟩
  | true =>
    rcases hc rfl with rfl | rfl <;> rcases hpre.pref with rfl | rfl
    · refine (snow8_00 b pb c0 c1 st po fl v0 v1 da ins ip sc beta d w h hp hne hpre.st0 hpre.st1 hpre.lo0 hpre.hi0).mono ?_
      rintro e w' ⟨he, d', h1, h2, h3⟩
      exact ⟨he, _, _, _, _, _, _, h1, h2, after_00 hpre, h3⟩
    · refine (snow8_01 b pb c0 c1 st po fl v0 v1 da ins ip sc beta d w h hp hne hpre.st0 hpre.st1 hpre.lo0 hpre.hi0).mono ?_
      rintro e w' ⟨he, d', h1, h2, h3⟩
      exact ⟨he, _, _, _, _, _, _, h1, h2, after_01 hpre, h3⟩
    · refine (snow8_10 b pb c0 c1 st po fl v0 v1 da ins ip sc beta d w h hp hne hpre.st0 hpre.st1 hpre.lo1 hpre.hi1).mono ?_
      rintro e w' ⟨he, d', h1, h2, h3⟩
      exact ⟨he, _, _, _, _, _, _, h1, h2, after_10 hpre, h3⟩
    · refine (snow8_11 b pb c0 c1 st po fl v0 v1 da ins ip sc beta d w h hp hne hpre.st0 hpre.st1 hpre.lo1 hpre.hi1).mono ?_
      rintro e w' ⟨he, d', h1, h2, h3⟩
      exact ⟨he, _, _, _, _, _, _, h1, h2, after_11 hpre, h3⟩

theorem snow5_any (b pb : Nat) (c0 c1 st po fl v0 v1 da ins ip sc c p beta : Int) (d succ : Bool) (w : World) (h : w.heap[b]? = some (.cells (node c0 c1 st po fl v0 v1 da ins ip sc d) 37 (0, 0))) (hp : w.heap[pb]? = some (.cells #[.int .u8 p] 28 (0, 0))) (hne : b ≠ pb)
    (hpre : Pre c0 c1 st sc p) (hc : succ = true → c = 0 ∨ c = 1) :
    Calls Try.prog 5 #[.pointer (some ⟨b, 0, none⟩), .pointer (some ⟨pb, 0, none⟩), .int .u8 c, .bool succ, .int .i64 beta] w (SnowPost b pb c0 c1 po fl v0 v1 da ins ip p succ w) := by
  have H := snow8_any b pb c0 c1 st po fl v0 v1 da ins ip sc c p beta d succ w h hp hne hpre hc
  clear h hp hne hpre hc
  go_enter Try.func5, Try.ntmps5
  go_wp2_with (go_at_call 8; refine H.mono ?_; rintro e w1 ⟨rfl, hpost⟩; have hpq : Hid _ := hpost; clear hpost)
  go_end0
  exact ⟨rfl, hpq.out⟩
end Go.Proofs.Qxb6601328a
