/-
  Seat b6602176a: validUUID (function 25) and ZZvalidUUID (21): contracts.
-/
import Derived.Test.Qxb6602176aProg
import Derived.WalkKit
import Derived.WalkSpells
import Derived.WalkLawsBesides
namespace Go.Proofs.Qxb6602176a
open Go.RowKit

/-- Is byte c right at place i of a UUID's text? -/
def Good (i : Nat) (c : Int) : Prop :=
  if i = 8 ∨ i = 13 ∨ i = 18 ∨ i = 23 then c = 45 else (48 ≤ c ∧ c ≤ 57) ∨ (97 ≤ c ∧ c ≤ 102) ∨ (65 ≤ c ∧ c ≤ 70)

theorem uuid_len (s : ByteArray) (hs : s.size ≠ 36) (w : World) :
    Calls Try.prog 25 #[.string s] w fun e w' => e = .returned (.bool false) ∧ w' = w := by
  have h36 : ((s.size : Int) != 36) = true := by rw [bne_iff_ne]; omega
  go_enter Try.func25, Try.ntmps25
  go_wp2
  go_ret
  exact ⟨rfl, rfl⟩

set_option maxHeartbeats 1000000 in
theorem uuid_yes (s : ByteArray) (hs : s.size = 36) (w : World) (hg : ∀ i (h : i < s.size), Good i (s[i].toNat : Int)) :
    Calls Try.prog 25 #[.string s] w fun e w' => e = .returned (.bool true) ∧ w' = w := by
  have hsI : (s.size : Int) = 36 := by omega
  have HG : Hid (∀ i (h : i < s.size), Good i (s[i].toNat : Int)) := hg
  have h36 : ((s.size : Int) != 36) = false := by simp [hsI]
  clear hg
  have hle : s.size ≤ 36 := by omega
  have hge : 36 ≤ s.size := by omega
  clear hs hsI
  go_enter Try.func25, Try.ntmps25
  go_wp2
  go_loop [3] (fun i => ∃ j : Nat, j ≤ 36 ∧ i = .int .i64 j) (fun i => 36 - (intOf i).toNat)
  case atStart => exact ⟨0, Nat.zero_le _, rfl⟩
  case round =>
    obtain ⟨j, hj, rfl⟩ := hrel
    by_cases hlt : j < 36
    · have hjs : j < s.size := by omega
      have hc := HG.out j hjs
      unfold Good at hc
      by_cases hd : j = 8 ∨ j = 13 ∨ j = 18 ∨ j = 23
      · rw [if_pos hd] at hc
        rcases hd with rfl | rfl | rfl | rfl
        · go_wp2
          go_round
          case rel => exact ⟨9, by decide, rfl⟩
          case measure => simp [intOf]
        · go_wp2
          go_round
          case rel => exact ⟨14, by decide, rfl⟩
          case measure => simp [intOf]
        · go_wp2
          go_round
          case rel => exact ⟨19, by decide, rfl⟩
          case measure => simp [intOf]
        · go_wp2
          go_round
          case rel => exact ⟨24, by decide, rfl⟩
          case measure => simp [intOf]
      · rw [if_neg hd] at hc
        have d8 : ((j : Int) == 8) = false := beq_eq_false_iff_ne.2 (by omega)
        have d13 : ((j : Int) == 13) = false := beq_eq_false_iff_ne.2 (by omega)
        have d18 : ((j : Int) == 18) = false := beq_eq_false_iff_ne.2 (by omega)
        have d23 : ((j : Int) == 23) = false := beq_eq_false_iff_ne.2 (by omega)
        clear hd
        rcases hc with ⟨h1, h2⟩ | ⟨h1, h2⟩ | ⟨h1, h2⟩
        all_goals
          go_wp2
          go_round
          case rel => exact ⟨j + 1, by omega, by go_num⟩
          case measure => simp [intOf]; omega
    · obtain rfl : j = 36 := by omega
      go_wp2
      go_ret
      exact ⟨rfl, rfl⟩

set_option maxHeartbeats 1000000 in
set_option maxRecDepth 100000 in
/-- All is right but for an 'x' at place p. -/
theorem uuid_x (s : ByteArray) (hs : s.size = 36) (p : Nat) (hp : p < s.size) (hx : (s[p].toNat : Int) = 120) (w : World) (hg : ∀ i (h : i < s.size), i ≠ p → Good i (s[i].toNat : Int)) :
    Calls Try.prog 25 #[.string s] w fun e w' => e = .returned (.bool false) ∧ w' = w := by
  have hsI : (s.size : Int) = 36 := by omega
  have HG : Hid (∀ i (h : i < s.size), i ≠ p → Good i (s[i].toNat : Int)) := hg
  have h36 : ((s.size : Int) != 36) = false := by simp [hsI]
  have HX : Hid (s[p].toNat = 120) := by show s[p].toNat = 120; omega
  clear hg hx
  have hle : s.size ≤ 36 := by omega
  have hge : 36 ≤ s.size := by omega
  clear hs hsI
  go_enter Try.func25, Try.ntmps25
  go_wp2
  go_loop [3] (fun i => ∃ j : Nat, j ≤ p ∧ i = .int .i64 j) (fun i => 36 - (intOf i).toNat)
  case atStart => exact ⟨0, Nat.zero_le _, rfl⟩
  case round =>
    obtain ⟨j, hj, rfl⟩ := hrel
    have hlt : j < 36 := by omega
    have hjs : j < s.size := by omega
    by_cases hjp : j = p
    · subst hjp
      have hc := HX.out
      have hcA : (119 : Int) < (s[j].toNat : Int) := by omega
      have hcB : (s[j].toNat : Int) < 121 := by omega
      have hne : ((s[j].toNat : Int) != 45) = true := by rw [bne_iff_ne]; omega
      clear hc HX HG
      by_cases hd : j = 8 ∨ j = 13 ∨ j = 18 ∨ j = 23
      · rcases hd with rfl | rfl | rfl | rfl
        all_goals
          go_wp2
          go_ret
          exact ⟨rfl, rfl⟩
      · have d8 : ((j : Int) == 8) = false := beq_eq_false_iff_ne.2 (by omega)
        have d13 : ((j : Int) == 13) = false := beq_eq_false_iff_ne.2 (by omega)
        have d18 : ((j : Int) == 18) = false := beq_eq_false_iff_ne.2 (by omega)
        have d23 : ((j : Int) == 23) = false := beq_eq_false_iff_ne.2 (by omega)
        clear hd
        go_wp2
        go_ret
        exact ⟨rfl, rfl⟩
    · have hc := HG.out j hjs hjp
      unfold Good at hc
      have hj1 : j + 1 ≤ p := by omega
      clear hp HX HG
      by_cases hd : j = 8 ∨ j = 13 ∨ j = 18 ∨ j = 23
      · rw [if_pos hd] at hc
        rcases hd with rfl | rfl | rfl | rfl
        · go_wp2
          go_round
          case rel => exact ⟨9, hj1, rfl⟩
          case measure => simp [intOf]
        · go_wp2
          go_round
          case rel => exact ⟨14, hj1, rfl⟩
          case measure => simp [intOf]
        · go_wp2
          go_round
          case rel => exact ⟨19, hj1, rfl⟩
          case measure => simp [intOf]
        · go_wp2
          go_round
          case rel => exact ⟨24, hj1, rfl⟩
          case measure => simp [intOf]
      · rw [if_neg hd] at hc
        have d8 : ((j : Int) == 8) = false := beq_eq_false_iff_ne.2 (by omega)
        have d13 : ((j : Int) == 13) = false := beq_eq_false_iff_ne.2 (by omega)
        have d18 : ((j : Int) == 18) = false := beq_eq_false_iff_ne.2 (by omega)
        have d23 : ((j : Int) == 23) = false := beq_eq_false_iff_ne.2 (by omega)
        clear hd
        rcases hc with ⟨h1, h2⟩ | ⟨h1, h2⟩ | ⟨h1, h2⟩
        all_goals
          go_wp2
          go_round
          case rel => exact ⟨j + 1, hj1, by go_num⟩
          case measure => simp [intOf]; omega

/-- ZZvalidUUID hands on. -/
theorem zzuuid {s : ByteArray} {w : World} {r : Bool} (h : Calls Try.prog 25 #[.string s] w fun e w' => e = .returned (.bool r) ∧ w' = w) :
    Calls Try.prog 21 #[.string s] w fun e w' => e = .returned (.bool r) ∧ w' = w := by
  have H : Hid (Calls Try.prog 25 #[.string s] w fun e w' => e = .returned (.bool r) ∧ w' = w) := h
  clear h
  go_enter Try.func21, Try.ntmps21
  go_wp2_with (go_at_call 25; refine H.out.mono ?_; rintro e w1 ⟨rfl, hw⟩; obtain rfl := hw.symm)
  go_ret
  exact ⟨rfl, rfl⟩
end Go.Proofs.Qxb6602176a
