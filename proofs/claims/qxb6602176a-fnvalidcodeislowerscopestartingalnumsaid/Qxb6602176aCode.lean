/-
  Seat b6602176a: ValidScope (11), b1HasUpper (12), b1IndexOf (13), ValidCode (14): contracts.
-/
import Derived.Test.Qxb6602176aProg
import Derived.WalkKit
import Derived.WalkSpells
import Derived.WalkLawsBesides
namespace Go.Proofs.Qxb6602176a
open Go.RowKit

def Low (c : Int) : Prop := (97 ≤ c ∧ c ≤ 122) ∨ (48 ≤ c ∧ c ≤ 57)
def Sep (c : Int) : Prop := c = 58 ∨ c = 46 ∨ c = 95 ∨ c = 45
def Upp (c : Int) : Prop := 65 ≤ c ∧ c ≤ 90
/-- May byte c stand in a scope? -/
def OkS (c : Int) : Prop := Low c ∨ Upp c ∨ Sep c
/-- May byte c stand at place i of a code? -/
def OkC (i : Nat) (c : Int) : Prop := Low c ∨ (0 < i ∧ Sep c)

def ScopeP (s : ByteArray) : Prop := 1 ≤ s.size ∧ s.size ≤ 64 ∧ ∀ i (h : i < s.size), OkS (s[i].toNat : Int)
def CodeP (s : ByteArray) : Prop := 1 ≤ s.size ∧ s.size ≤ 128 ∧ ∀ i (h : i < s.size), OkC i (s[i].toNat : Int)
def UpP (s : ByteArray) : Prop := ∃ (i : Nat) (h : i < s.size), Upp (s[i].toNat : Int)

theorem empty_iff (s : ByteArray) : s.toList.isEmpty = decide (s.size = 0) := by
  rw [ByteArray.toList_eq, Bool.eq_iff_iff, decide_eq_true_iff, List.isEmpty_iff]
  constructor
  · intro h
    have h1 : s.data.toList.length = 0 := by rw [h]; rfl
    rwa [Array.length_toList] at h1
  · intro h
    exact List.eq_nil_of_length_eq_zero (by rw [Array.length_toList]; exact h)

set_option maxHeartbeats 1000000 in
set_option maxRecDepth 100000 in
theorem scope_short (s : ByteArray) (h : s.size = 0 ∨ 64 < s.size) (w : World) : Calls Try.prog 11 #[.string s] w fun e w' => e = .returned (.bool false) ∧ w' = w := by
  rcases h with h | h
  · have he : s.toList.isEmpty = true := by rw [empty_iff]; exact decide_eq_true h
    go_enter Try.func11, Try.ntmps11
    go_wp2
    go_ret
    exact ⟨rfl, rfl⟩
  · have he : s.toList.isEmpty = false := by rw [empty_iff]; exact decide_eq_false (by omega)
    have h2 : decide ((64 : Int) < s.size) = true := by simp; omega
    go_enter Try.func11, Try.ntmps11
    go_wp2
    go_ret
    exact ⟨rfl, rfl⟩

def ScopePost (s : ByteArray) (e : Ending) : Prop := (e = .returned (.bool true) ∧ ∀ i (h : i < s.size), OkS (s[i].toNat : Int)) ∨ (e = .returned (.bool false) ∧ ∃ (i : Nat) (h : i < s.size), ¬ OkS (s[i].toNat : Int))

set_option maxHeartbeats 2000000 in
set_option maxRecDepth 100000 in
/-- ValidScope at a text of 1 to 64 bytes. -/
theorem scope_walk (s : ByteArray) (h1 : 1 ≤ s.size) (h2 : s.size ≤ 64) (w : World) : Calls Try.prog 11 #[.string s] w fun e w' => ScopePost s e ∧ w' = w := by
  have he : s.toList.isEmpty = false := by rw [empty_iff]; exact decide_eq_false (by omega)
  have hd : decide ((64 : Int) < s.size) = false := by simp; omega
  go_enter Try.func11, Try.ntmps11
  go_wp2
  go_loop [3] (fun i => ∃ j : Nat, j ≤ s.size ∧ i = .int .i64 j ∧ Hid (∀ q (h : q < s.size), q < j → OkS (s[q].toNat : Int))) (fun i => s.size - (intOf i).toNat)
  case atStart => exact ⟨0, Nat.zero_le _, rfl, fun q h hq => by omega⟩
  case round =>
    obtain ⟨j, hj, rfl, HQ⟩ := hrel
    by_cases hlt : j < s.size
    · by_cases hok : OkS (s[j].toNat : Int)
      · have HN : Hid (∀ q (h : q < s.size), q < j + 1 → OkS (s[q].toNat : Int)) := fun q h hq => by
          rcases Nat.lt_or_ge q j with h' | h'
          · exact HQ.out q h h'
          · obtain rfl : q = j := by omega
            exact hok
        clear HQ
        unfold OkS Low Upp Sep at hok
        rcases hok with (⟨a, b⟩ | ⟨a, b⟩) | ⟨a, b⟩ | a | a | a | a
        all_goals
          go_wp2
          go_round
          case rel => exact ⟨j + 1, by omega, by go_num, HN⟩
          case measure => simp [intOf]; omega
      · have HN : Hid (∃ (i : Nat) (h : i < s.size), ¬ OkS (s[i].toNat : Int)) := ⟨j, hlt, hok⟩
        clear HQ
        unfold OkS Low Upp Sep at hok
        have n1 : ((s[j].toNat : Int) == 58) = false := beq_eq_false_iff_ne.2 (by omega)
        have n2 : ((s[j].toNat : Int) == 46) = false := beq_eq_false_iff_ne.2 (by omega)
        have n3 : ((s[j].toNat : Int) == 95) = false := beq_eq_false_iff_ne.2 (by omega)
        have n4 : ((s[j].toNat : Int) == 45) = false := beq_eq_false_iff_ne.2 (by omega)
        have n5 : ¬ (97 ≤ (s[j].toNat : Int) ∧ (s[j].toNat : Int) ≤ 122) := by omega
        have n6 : ¬ (65 ≤ (s[j].toNat : Int) ∧ (s[j].toNat : Int) ≤ 90) := by omega
        have n7 : ¬ (48 ≤ (s[j].toNat : Int) ∧ (s[j].toNat : Int) ≤ 57) := by omega
        clear hok
        go_wp2
        all_goals
          go_ret
          exact ⟨.inr ⟨rfl, HN.out⟩, rfl⟩
    · obtain rfl : j = s.size := by omega
      go_wp2
      go_ret
      exact ⟨.inl ⟨rfl, fun i h => HQ.out i h h⟩, rfl⟩

theorem scope_yes (s : ByteArray) (h : ScopeP s) (w : World) : Calls Try.prog 11 #[.string s] w fun e w' => e = .returned (.bool true) ∧ w' = w := by
  obtain ⟨h1, h2, h3⟩ := h
  refine (scope_walk s h1 h2 w).mono ?_
  rintro e w' ⟨h | ⟨_, i, hi, hn⟩, rfl⟩
  · exact ⟨h.1, rfl⟩
  · exact absurd (h3 i hi) hn
theorem scope_no (s : ByteArray) (h : ¬ ScopeP s) (w : World) : Calls Try.prog 11 #[.string s] w fun e w' => e = .returned (.bool false) ∧ w' = w := by
  by_cases hs : s.size = 0 ∨ 64 < s.size
  · exact scope_short s hs w
  refine (scope_walk s (by omega) (by omega) w).mono ?_
  rintro e w' ⟨⟨_, ha⟩ | h', rfl⟩
  · exact absurd ⟨by omega, by omega, ha⟩ h
  · exact ⟨h'.1, rfl⟩

def UpPost (s : ByteArray) (e : Ending) : Prop := (e = .returned (.bool true) ∧ UpP s) ∨ (e = .returned (.bool false) ∧ ¬ UpP s)

set_option maxHeartbeats 1000000 in
set_option maxRecDepth 100000 in
/-- b1HasUpper. -/
theorem up_walk (s : ByteArray) (hm : s.size ≤ 1048576) (w : World) : Calls Try.prog 12 #[.string s] w fun e w' => UpPost s e ∧ w' = w := by
  go_enter Try.func12, Try.ntmps12
  go_wp2
  go_loop [3] (fun i => ∃ j : Nat, j ≤ s.size ∧ i = .int .i64 j ∧ Hid (∀ q (h : q < s.size), q < j → ¬ Upp (s[q].toNat : Int))) (fun i => s.size - (intOf i).toNat)
  case atStart => exact ⟨0, Nat.zero_le _, rfl, fun q h hq => by omega⟩
  case round =>
    obtain ⟨j, hj, rfl, HQ⟩ := hrel
    by_cases hlt : j < s.size
    · by_cases hok : Upp (s[j].toNat : Int)
      · have HN : Hid (UpP s) := ⟨j, hlt, hok⟩
        unfold Upp at hok
        obtain ⟨a, b⟩ := hok
        clear HQ
        go_wp2
        go_ret
        exact ⟨.inl ⟨rfl, HN.out⟩, rfl⟩
      · have HN : Hid (∀ q (h : q < s.size), q < j + 1 → ¬ Upp (s[q].toNat : Int)) := fun q h hq => by
          rcases Nat.lt_or_ge q j with h' | h'
          · exact HQ.out q h h'
          · obtain rfl : q = j := by omega
            exact hok
        clear HQ
        unfold Upp at hok
        go_wp2
        all_goals
          go_round
          case rel => exact ⟨j + 1, by omega, by go_num, HN⟩
          case measure => simp [intOf]; omega
    · obtain rfl : j = s.size := by omega
      go_wp2
      go_ret
      exact ⟨.inr ⟨rfl, fun ⟨i, h, hu⟩ => HQ.out i h h hu⟩, rfl⟩

theorem up_yes (s : ByteArray) (hm : s.size ≤ 1048576) (h : UpP s) (w : World) : Calls Try.prog 12 #[.string s] w fun e w' => e = .returned (.bool true) ∧ w' = w := by
  refine (up_walk s hm w).mono ?_
  rintro e w' ⟨h' | h', rfl⟩
  · exact ⟨h'.1, rfl⟩
  · exact absurd h h'.2
theorem up_no (s : ByteArray) (hm : s.size ≤ 1048576) (h : ¬ UpP s) (w : World) : Calls Try.prog 12 #[.string s] w fun e w' => e = .returned (.bool false) ∧ w' = w := by
  refine (up_walk s hm w).mono ?_
  rintro e w' ⟨h' | h', rfl⟩
  · exact absurd h'.2 h
  · exact ⟨h'.1, rfl⟩

def IdxPost (s : ByteArray) (c : Int) (e : Ending) : Prop := (∃ (k : Nat) (h : k < s.size), e = .returned (.int .i64 (k : Int)) ∧ (s[k].toNat : Int) = c) ∨ (e = .returned (.int .i64 (-1)) ∧ ∀ (k : Nat) (h : k < s.size), (s[k].toNat : Int) ≠ c)

set_option maxHeartbeats 1000000 in
/-- b1IndexOf. -/
theorem idx_walk (s : ByteArray) (hm : s.size ≤ 1048576) (c : Int) (w : World) : Calls Try.prog 13 #[.string s, .int .u8 c] w fun e w' => IdxPost s c e ∧ w' = w := by
  go_enter Try.func13, Try.ntmps13
  go_wp2
  go_loop [5] (fun i => ∃ j : Nat, j ≤ s.size ∧ i = .int .i64 j ∧ Hid (∀ q (h : q < s.size), q < j → (s[q].toNat : Int) ≠ c)) (fun i => s.size - (intOf i).toNat)
  case atStart => exact ⟨0, Nat.zero_le _, rfl, fun q h hq => by omega⟩
  case round =>
    obtain ⟨j, hj, rfl, HQ⟩ := hrel
    by_cases hlt : j < s.size
    · by_cases hok : (s[j].toNat : Int) = c
      · have hb : ((s[j].toNat : Int) == c) = true := beq_iff_eq.2 hok
        have HO : Hid ((s[j].toNat : Int) = c) := hok
        clear HQ hok
        go_wp2
        go_ret
        exact ⟨.inl ⟨j, hlt, rfl, HO.out⟩, rfl⟩
      · have hb : ((s[j].toNat : Int) == c) = false := beq_eq_false_iff_ne.2 hok
        have HN : Hid (∀ q (h : q < s.size), q < j + 1 → (s[q].toNat : Int) ≠ c) := fun q h hq => by
          rcases Nat.lt_or_ge q j with h' | h'
          · exact HQ.out q h h'
          · obtain rfl : q = j := by omega
            exact hok
        clear HQ hok
        go_wp2
        go_round
        case rel => exact ⟨j + 1, by omega, by go_num, HN⟩
        case measure => simp [intOf]; omega
    · obtain rfl : j = s.size := by omega
      go_wp2
      go_ret
      exact ⟨.inr ⟨rfl, fun i h => HQ.out i h h⟩, rfl⟩

set_option maxHeartbeats 1000000 in
set_option maxRecDepth 100000 in
theorem code_short (s : ByteArray) (h : s.size = 0 ∨ 128 < s.size) (w : World) : Calls Try.prog 14 #[.string s] w fun e w' => e = .returned (.bool false) ∧ w' = w := by
  rcases h with h | h
  · have he : s.toList.isEmpty = true := by rw [empty_iff]; exact decide_eq_true h
    go_enter Try.func14, Try.ntmps14
    go_wp2
    go_ret
    exact ⟨rfl, rfl⟩
  · have he : s.toList.isEmpty = false := by rw [empty_iff]; exact decide_eq_false (by omega)
    have h2 : decide ((128 : Int) < s.size) = true := by simp; omega
    go_enter Try.func14, Try.ntmps14
    go_wp2
    go_ret
    exact ⟨rfl, rfl⟩

def CodePost (s : ByteArray) (e : Ending) : Prop := (e = .returned (.bool true) ∧ ∀ i (h : i < s.size), OkC i (s[i].toNat : Int)) ∨ (e = .returned (.bool false) ∧ ∃ (i : Nat) (h : i < s.size), ¬ OkC i (s[i].toNat : Int))

set_option maxHeartbeats 2000000 in
set_option maxRecDepth 100000 in
/-- ValidCode at a text of 1 to 128 bytes. -/
theorem code_walk (s : ByteArray) (h1 : 1 ≤ s.size) (h2 : s.size ≤ 128) (w : World) : Calls Try.prog 14 #[.string s] w fun e w' => CodePost s e ∧ w' = w := by
  have he : s.toList.isEmpty = false := by rw [empty_iff]; exact decide_eq_false (by omega)
  have hd : decide ((128 : Int) < s.size) = false := by simp; omega
  go_enter Try.func14, Try.ntmps14
  go_wp2
  go_loop [3] (fun i => ∃ j : Nat, j ≤ s.size ∧ i = .int .i64 j ∧ Hid (∀ q (h : q < s.size), q < j → OkC q (s[q].toNat : Int))) (fun i => s.size - (intOf i).toNat)
  case atStart => exact ⟨0, Nat.zero_le _, rfl, fun q h hq => by omega⟩
  case round =>
    obtain ⟨j, hj, rfl, HQ⟩ := hrel
    by_cases hlt : j < s.size
    · by_cases hok : OkC j (s[j].toNat : Int)
      · have HN : Hid (∀ q (h : q < s.size), q < j + 1 → OkC q (s[q].toNat : Int)) := fun q h hq => by
          rcases Nat.lt_or_ge q j with h' | h'
          · exact HQ.out q h h'
          · obtain rfl : q = j := by omega
            exact hok
        clear HQ
        unfold OkC Low Sep at hok
        rcases hok with (⟨a, b⟩ | ⟨a, b⟩) | ⟨z, a | a | a | a⟩
        · go_wp2
          go_round
          case rel => exact ⟨j + 1, by omega, by go_num, HN⟩
          case measure => simp [intOf]; omega
        · go_wp2
          go_round
          case rel => exact ⟨j + 1, by omega, by go_num, HN⟩
          case measure => simp [intOf]; omega
        all_goals
          have z' : decide ((0 : Int) < j) = true := by simp; omega
          go_wp2
          go_round
          case rel => exact ⟨j + 1, by omega, by go_num, HN⟩
          case measure => simp [intOf]; omega
      · have HN : Hid (∃ (i : Nat) (h : i < s.size), ¬ OkC i (s[i].toNat : Int)) := ⟨j, hlt, hok⟩
        clear HQ
        unfold OkC Low Sep at hok
        have n5 : ¬ (97 ≤ (s[j].toNat : Int) ∧ (s[j].toNat : Int) ≤ 122) := by omega
        have n7 : ¬ (48 ≤ (s[j].toNat : Int) ∧ (s[j].toNat : Int) ≤ 57) := by omega
        by_cases hz : 0 < j
        · have z' : decide ((0 : Int) < j) = true := by simp; omega
          have n1 : ((s[j].toNat : Int) == 58) = false := beq_eq_false_iff_ne.2 (by omega)
          have n2 : ((s[j].toNat : Int) == 46) = false := beq_eq_false_iff_ne.2 (by omega)
          have n3 : ((s[j].toNat : Int) == 95) = false := beq_eq_false_iff_ne.2 (by omega)
          have n4 : ((s[j].toNat : Int) == 45) = false := beq_eq_false_iff_ne.2 (by omega)
          clear hok
          go_wp2
          all_goals
            go_ret
            exact ⟨.inr ⟨rfl, HN.out⟩, rfl⟩
        · have z' : decide ((0 : Int) < j) = false := by simp; omega
          clear hok
          go_wp2
          all_goals
            go_ret
            exact ⟨.inr ⟨rfl, HN.out⟩, rfl⟩
    · obtain rfl : j = s.size := by omega
      go_wp2
      go_ret
      exact ⟨.inl ⟨rfl, fun i h => HQ.out i h h⟩, rfl⟩

theorem code_yes (s : ByteArray) (h : CodeP s) (w : World) : Calls Try.prog 14 #[.string s] w fun e w' => e = .returned (.bool true) ∧ w' = w := by
  obtain ⟨h1, h2, h3⟩ := h
  refine (code_walk s h1 h2 w).mono ?_
  rintro e w' ⟨h | ⟨_, i, hi, hn⟩, rfl⟩
  · exact ⟨h.1, rfl⟩
  · exact absurd (h3 i hi) hn
theorem code_no (s : ByteArray) (h : ¬ CodeP s) (w : World) : Calls Try.prog 14 #[.string s] w fun e w' => e = .returned (.bool false) ∧ w' = w := by
  by_cases hs : s.size = 0 ∨ 128 < s.size
  · exact code_short s hs w
  refine (code_walk s (by omega) (by omega) w).mono ?_
  rintro e w' ⟨⟨_, ha⟩ | h', rfl⟩
  · exact absurd ⟨by omega, by omega, ha⟩ h
  · exact ⟨h'.1, rfl⟩
end Go.Proofs.Qxb6602176a
