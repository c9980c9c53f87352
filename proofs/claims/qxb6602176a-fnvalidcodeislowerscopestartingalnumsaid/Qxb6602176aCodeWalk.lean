/-
  Seat b6602176a: the walk of FnValidCodeIsLowerScopeStartingAlnum (function 3).
-/
import Derived.Test.Qxb6602176aCode
import Derived.Deep.RegionWith
namespace Go.Proofs.Qxb6602176a
open Go.RowKit
set_option linter.unusedVariables false

def alpha : ByteArray := ⟨#[97, 98, 99, 100, 101, 102, 103, 104, 105, 106, 107, 108, 109, 110, 111, 112, 113, 114, 115, 116, 117, 118, 119, 120, 121, 122, 48, 49, 50, 51, 52, 53, 54, 55, 56, 57, 58, 46, 95, 45]⟩

theorem alpha_low : ∀ (k : Nat) (h : k < 40), (k < 36 ↔ ((97 ≤ (alpha[k]'h).toNat ∧ (alpha[k]'h).toNat ≤ 122) ∨ (48 ≤ (alpha[k]'h).toNat ∧ (alpha[k]'h).toNat ≤ 57))) := by decide
theorem alpha_let : ∀ (k : Nat) (h : k < 26), (alpha[k]'(Nat.lt_trans h (by decide))).toNat = 97 + k := by decide
theorem alpha_dig : ∀ (k : Nat) (h : k < 10), (alpha[26 + k]'(by show 26 + k < 40; omega)).toNat = 48 + k := by decide

/-- The first byte is a small letter or a digit: its place in the alphabet is below 36. -/
theorem idx_yes (c : Int) (h : Low c) (w : World) : Calls Try.prog 13 #[.string ⟨#[97, 98, 99, 100, 101, 102, 103, 104, 105, 106, 107, 108, 109, 110, 111, 112, 113, 114, 115, 116, 117, 118, 119, 120, 121, 122, 48, 49, 50, 51, 52, 53, 54, 55, 56, 57, 58, 46, 95, 45]⟩, .int .u8 c] w fun e w' => ∃ r : Int, e = .returned (.int .i64 r) ∧ 0 ≤ r ∧ r < 36 ∧ w' = w := by
  refine (idx_walk alpha (by decide) c w).mono ?_
  rintro e w' ⟨⟨k, hk, rfl, hc⟩ | ⟨_, hn⟩, rfl⟩
  · have := (alpha_low k hk).2 (by unfold Low at h; omega)
    exact ⟨k, rfl, by omega, by omega, rfl⟩
  · exfalso
    unfold Low at h
    rcases h with ⟨a, b⟩ | ⟨a, b⟩
    · have h1 := alpha_let (c - 97).toNat (by omega)
      exact hn (c - 97).toNat (by show (c - 97).toNat < 40; omega) (by rw [h1]; omega)
    · have h1 := alpha_dig (c - 48).toNat (by omega)
      exact hn (26 + (c - 48).toNat) (by show 26 + (c - 48).toNat < 40; omega) (by rw [h1]; omega)

/-- .. else it is -1, or 36 and more. -/
theorem idx_no (c : Int) (h : ¬ Low c) (w : World) : Calls Try.prog 13 #[.string ⟨#[97, 98, 99, 100, 101, 102, 103, 104, 105, 106, 107, 108, 109, 110, 111, 112, 113, 114, 115, 116, 117, 118, 119, 120, 121, 122, 48, 49, 50, 51, 52, 53, 54, 55, 56, 57, 58, 46, 95, 45]⟩, .int .u8 c] w fun e w' => ∃ r : Int, e = .returned (.int .i64 r) ∧ (r = -1 ∨ 36 ≤ r) ∧ w' = w := by
  refine (idx_walk alpha (by decide) c w).mono ?_
  rintro e w' ⟨⟨k, hk, rfl, hc⟩ | ⟨rfl, hn⟩, rfl⟩
  · refine ⟨k, rfl, .inr ?_, rfl⟩
    rcases Nat.lt_or_ge k 36 with h36 | h36
    · exfalso
      have := (alpha_low k hk).1 h36
      apply h
      unfold Low
      omega
    · omega
  · exact ⟨-1, rfl, .inl rfl, rfl⟩

/-! ### the plain law -/
theorem code_not_long (s : ByteArray) (h : 128 < s.size) : ¬ CodeP s := fun hc => by have := hc.2.1; omega
theorem code_not_empty (s : ByteArray) (h : s.size = 0) : ¬ CodeP s := fun hc => by have := hc.1; omega
theorem code_not_up (s : ByteArray) (h : UpP s) : ¬ CodeP s := fun hc => by
  obtain ⟨i, hi, hu⟩ := h
  have := hc.2.2 i hi
  unfold OkC Low Sep at this
  unfold Upp at hu
  omega
theorem code_not_first (s : ByteArray) (h0 : 0 < s.size) (h : ¬ Low (s[0].toNat : Int)) : ¬ CodeP s := fun hc => by
  have := hc.2.2 0 h0
  unfold OkC at this
  rcases this with h' | ⟨h', _⟩
  · exact h h'
  · omega
theorem ok_iff {s : ByteArray} (hu : ¬ UpP s) (h0 : 0 < s.size) (hl : Low (s[0].toNat : Int)) (i : Nat) (hi : i < s.size) : OkC i (s[i].toNat : Int) ↔ OkS (s[i].toNat : Int) := by
  have hn : ¬ Upp (s[i].toNat : Int) := fun e => hu ⟨i, hi, e⟩
  unfold OkC OkS
  constructor
  · rintro (h | ⟨_, h⟩)
    · exact .inl h
    · exact .inr (.inr h)
  · rintro (h | h | h)
    · exact .inl h
    · exact absurd h hn
    · rcases Nat.eq_zero_or_pos i with rfl | hp
      · exact .inl hl
      · exact .inr ⟨hp, h⟩
theorem code_small {s : ByteArray} (hu : ¬ UpP s) (h0 : 0 < s.size) (h64 : s.size ≤ 64) (hl : Low (s[0].toNat : Int)) : CodeP s ↔ ScopeP s :=
  ⟨fun h => ⟨h.1, h64, fun i hi => (ok_iff hu h0 hl i hi).1 (h.2.2 i hi)⟩, fun h => ⟨h.1, by have := h.2.1; omega, fun i hi => (ok_iff hu h0 hl i hi).2 (h.2.2 i hi)⟩⟩
theorem extract_size (s : ByteArray) (a b : Nat) : (s.extract a b).size = min b s.size - a := by simp
theorem extract_at (s : ByteArray) (a b i : Nat) (h : i < (s.extract a b).size) : ∃ h' : a + i < s.size, (s.extract a b)[i]'h = s[a + i]'h' := by
  have hs := extract_size s a b
  refine ⟨by omega, ?_⟩
  show (s.extract a b).data[i]'h = s.data[a + i]'_
  simp
theorem code_big {s : ByteArray} (hu : ¬ UpP s) (h64 : 64 < s.size) (h128 : s.size ≤ 128) (hl : Low ((s[0]'(by omega)).toNat : Int)) : CodeP s ↔ ScopeP (s.extract 0 64) ∧ ScopeP (s.extract 64 s.size) := by
  have e1 := extract_size s 0 64
  have e2 := extract_size s 64 s.size
  constructor
  · intro h
    refine ⟨⟨by omega, by omega, fun i hi => ?_⟩, ⟨by omega, by omega, fun i hi => ?_⟩⟩
    · obtain ⟨h', e⟩ := extract_at s 0 64 i hi
      rw [e]
      exact (ok_iff hu (by omega) hl _ h').1 (h.2.2 _ h')
    · obtain ⟨h', e⟩ := extract_at s 64 s.size i hi
      rw [e]
      exact (ok_iff hu (by omega) hl _ h').1 (h.2.2 _ h')
  · rintro ⟨ha, hb⟩
    refine ⟨by omega, h128, fun i hi => (ok_iff hu (by omega) hl i hi).2 ?_⟩
    rcases Nat.lt_or_ge i 64 with h | h
    · have h1 : i < (s.extract 0 64).size := by omega
      obtain ⟨h', e⟩ := extract_at s 0 64 i h1
      have := ha.2.2 i h1
      rw [e] at this
      simpa using this
    · have h1 : i - 64 < (s.extract 64 s.size).size := by omega
      obtain ⟨h', e⟩ := extract_at s 64 s.size (i - 64) h1
      have := hb.2.2 (i - 64) h1
      rw [e] at this
      have hh : 64 + (i - 64) = i := by omega
      simpa [hh] using this

theorem bytes10 (s : ByteArray) (h : s.size ≤ 1048576) (w : World) : Calls Try.prog 10 #[.string s] w fun e w' => e = .returned (.bool true) ∧ w' = w := by
  go_enter Try.func10, Try.ntmps10
  go_wp2
  go_ret
  exact ⟨rfl, rfl⟩
theorem bytes10_no (s : ByteArray) (h : 1048576 < s.size) (hm : s.size ≤ 9223372036854775807) (w : World) : Calls Try.prog 10 #[.string s] w fun e w' => e = .returned (.bool false) ∧ w' = w := by
  go_enter Try.func10, Try.ntmps10
  go_wp2
  go_ret
  exact ⟨rfl, rfl⟩

set_option maxHeartbeats 8000000 in
set_option maxRecDepth 100000 in
theorem law_huge (s : ByteArray) (h : 1048576 < s.size) (hm : s.size ≤ 9223372036854775807) (w : World) : Calls Try.prog 3 #[.string s] w fun e w' => e = .returned (.bool true) ∧ w' = w := by
  go_enter Try.func3, Try.ntmps3
  go_wp2_with (go_at_call 10; refine (bytes10_no s h hm _).mono ?_; rintro e w1 ⟨rfl, hw⟩; obtain rfl := hw.symm)
  go_ret
  exact ⟨rfl, rfl⟩

set_option maxHeartbeats 8000000 in
set_option maxRecDepth 100000 in
theorem law_empty (s : ByteArray) (h0 : s.size < 1) (w : World) : Calls Try.prog 3 #[.string s] w fun e w' => e = .returned (.bool true) ∧ w' = w := by
  have hsm : s.size ≤ 1048576 := by omega
  go_enter Try.func3, Try.ntmps3
  go_wp2_with (first
    | (go_at_call 10; refine (bytes10 s hsm _).mono ?_; rintro e w1 ⟨rfl, hw⟩; obtain rfl := hw.symm)
    | (go_at_call 14; refine (code_no s (code_not_empty s (by omega)) _).mono ?_; rintro e w3 ⟨rfl, hw⟩; obtain rfl := hw.symm))
  all_goals (go_ret; exact ⟨rfl, rfl⟩)

set_option maxHeartbeats 8000000 in
set_option maxRecDepth 100000 in
theorem law_long (s : ByteArray) (hbig : 128 < s.size) (hsm : s.size ≤ 1048576) (w : World) : Calls Try.prog 3 #[.string s] w fun e w' => e = .returned (.bool true) ∧ w' = w := by
  have hbig64 : 64 < s.size := by omega
  have tok : True := trivial
  go_enter Try.func3, Try.ntmps3
  go_wp2_with (first
    | (go_at_call 10; refine (bytes10 s hsm _).mono ?_; rintro e w1 ⟨rfl, hw⟩; obtain rfl := hw.symm)
    | (go_at_call 11; have _t := tok; refine (scope_short s (.inr hbig64) _).mono ?_; rintro e w3 ⟨rfl, hw⟩; obtain rfl := hw.symm; clear tok)
    | (go_at_call 14; refine (code_no s (code_not_long s hbig) _).mono ?_; rintro e w3 ⟨rfl, hw⟩; obtain rfl := hw.symm))
  all_goals (go_ret; exact ⟨rfl, rfl⟩)

set_option maxHeartbeats 8000000 in
set_option maxRecDepth 100000 in
theorem law_small (s : ByteArray) (h1 : 1 ≤ s.size) (h64 : s.size ≤ 64) (w : World) : Calls Try.prog 3 #[.string s] w fun e w' => e = .returned (.bool true) ∧ w' = w := by
  have hsm : s.size ≤ 1048576 := by omega
  by_cases hu : UpP s
  · have HU : Hid (UpP s) := hu
    clear hu
    go_enter Try.func3, Try.ntmps3
    go_wp2_with (first
      | (go_at_call 10; refine (bytes10 s hsm _).mono ?_; rintro e w1 ⟨rfl, hw⟩; obtain rfl := hw.symm)
      | (go_at_call 12; refine (up_yes s hsm HU.out _).mono ?_; rintro e w3 ⟨rfl, hw⟩; obtain rfl := hw.symm)
      | (go_at_call 14; refine (code_no s (code_not_up s HU.out) _).mono ?_; rintro e w3 ⟨rfl, hw⟩; obtain rfl := hw.symm))
    all_goals (go_ret; exact ⟨rfl, rfl⟩)
  by_cases hl : Low ((s[0]'(by omega)).toNat : Int)
  · by_cases hs : ScopeP s
    · have hc := (code_small hu (by omega) h64 hl).2 hs
      go_enter Try.func3, Try.ntmps3
      go_wp2_with (first
        | (go_at_call 10; refine (bytes10 s hsm _).mono ?_; rintro e w1 ⟨rfl, hw⟩; obtain rfl := hw.symm)
        | (go_at_call 12; refine (up_no s hsm hu _).mono ?_; rintro e w3 ⟨rfl, hw⟩; obtain rfl := hw.symm)
        | (go_at_call 13; refine (idx_yes _ hl _).mono ?_; rintro e w3 ⟨r, rfl, hr0, hr36, hw⟩; obtain rfl := hw.symm)
        | (go_at_call 11; refine (scope_yes s hs _).mono ?_; rintro e w3 ⟨rfl, hw⟩; obtain rfl := hw.symm)
        | (go_at_call 14; refine (code_yes s (hc) _).mono ?_; rintro e w3 ⟨rfl, hw⟩; obtain rfl := hw.symm))
      all_goals (go_ret; exact ⟨rfl, rfl⟩)
    · have hc : ¬ CodeP s := fun e => hs ((code_small hu (by omega) h64 hl).1 e)
      go_enter Try.func3, Try.ntmps3
      go_wp2_with (first
        | (go_at_call 10; refine (bytes10 s hsm _).mono ?_; rintro e w1 ⟨rfl, hw⟩; obtain rfl := hw.symm)
        | (go_at_call 12; refine (up_no s hsm hu _).mono ?_; rintro e w3 ⟨rfl, hw⟩; obtain rfl := hw.symm)
        | (go_at_call 13; refine (idx_yes _ hl _).mono ?_; rintro e w3 ⟨r, rfl, hr0, hr36, hw⟩; obtain rfl := hw.symm)
        | (go_at_call 11; refine (scope_no s hs _).mono ?_; rintro e w3 ⟨rfl, hw⟩; obtain rfl := hw.symm)
        | (go_at_call 14; refine (code_no s (hc) _).mono ?_; rintro e w3 ⟨rfl, hw⟩; obtain rfl := hw.symm))
      all_goals (go_ret; exact ⟨rfl, rfl⟩)
  · have hc := code_not_first s (by omega) hl
    go_enter Try.func3, Try.ntmps3
    go_wp2_with (first
      | (go_at_call 10; refine (bytes10 s hsm _).mono ?_; rintro e w1 ⟨rfl, hw⟩; obtain rfl := hw.symm)
      | (go_at_call 12; refine (up_no s hsm hu _).mono ?_; rintro e w3 ⟨rfl, hw⟩; obtain rfl := hw.symm)
      | (go_at_call 13; refine (idx_no _ hl _).mono ?_; rintro e w3 ⟨r, rfl, hr, hw⟩; obtain rfl := hw.symm; rcases hr with rfl | hr)
      | (go_at_call 14; refine (code_no s (hc) _).mono ?_; rintro e w3 ⟨rfl, hw⟩; obtain rfl := hw.symm))
    all_goals (go_ret; exact ⟨rfl, rfl⟩)

set_option maxHeartbeats 8000000 in
set_option maxRecDepth 100000 in
theorem law_mid (s : ByteArray) (hbig64 : 64 < s.size) (h128 : s.size ≤ 128) (w : World) : Calls Try.prog 3 #[.string s] w fun e w' => e = .returned (.bool true) ∧ w' = w := by
  have hsm : s.size ≤ 1048576 := by omega
  have tok : True := trivial
  by_cases hu : UpP s
  · have HU : Hid (UpP s) := hu
    clear hu
    go_enter Try.func3, Try.ntmps3
    go_wp2_with (first
      | (go_at_call 10; refine (bytes10 s hsm _).mono ?_; rintro e w1 ⟨rfl, hw⟩; obtain rfl := hw.symm)
      | (go_at_call 11; have _t := tok; refine (scope_short s (.inr hbig64) _).mono ?_; rintro e w3 ⟨rfl, hw⟩; obtain rfl := hw.symm; clear tok)
      | (go_at_call 12; refine (up_yes s hsm HU.out _).mono ?_; rintro e w3 ⟨rfl, hw⟩; obtain rfl := hw.symm)
      | (go_at_call 14; refine (code_no s (code_not_up s HU.out) _).mono ?_; rintro e w3 ⟨rfl, hw⟩; obtain rfl := hw.symm))
    all_goals (go_ret; exact ⟨rfl, rfl⟩)
  by_cases hl : Low ((s[0]'(by omega)).toNat : Int)
  · have hib := code_big hu hbig64 h128 hl
    by_cases ha : ScopeP (s.extract 0 64)
    · by_cases hb : ScopeP (s.extract 64 s.size)
      · have hc := hib.2 ⟨ha, hb⟩
        clear hib
        go_enter Try.func3, Try.ntmps3
        go_wp2_with (first
          | (go_at_call 10; refine (bytes10 s hsm _).mono ?_; rintro e w1 ⟨rfl, hw⟩; obtain rfl := hw.symm)
          | (go_at_call 11; have _t := tok; refine (scope_short s (.inr hbig64) _).mono ?_; rintro e w3 ⟨rfl, hw⟩; obtain rfl := hw.symm; clear tok)
          | (go_at_call 12; refine (up_no s hsm hu _).mono ?_; rintro e w3 ⟨rfl, hw⟩; obtain rfl := hw.symm)
          | (go_at_call 13; refine (idx_yes _ hl _).mono ?_; rintro e w3 ⟨r, rfl, hr0, hr36, hw⟩; obtain rfl := hw.symm))
        refine (scope_yes _ ha _).mono ?_
        rintro e w3 ⟨rfl, hw⟩
        obtain rfl := hw.symm
        go_wp2_with fail
        refine (scope_yes _ hb _).mono ?_
        rintro e w3 ⟨rfl, hw⟩
        obtain rfl := hw.symm
        go_wp2_with fail
        refine (code_yes s hc _).mono ?_
        rintro e w3 ⟨rfl, hw⟩
        obtain rfl := hw.symm
        go_wp2_with fail
        go_ret
        exact ⟨rfl, rfl⟩
      · have hc : ¬ CodeP s := fun e => hb (hib.1 e).2
        clear hib
        go_enter Try.func3, Try.ntmps3
        go_wp2_with (first
          | (go_at_call 10; refine (bytes10 s hsm _).mono ?_; rintro e w1 ⟨rfl, hw⟩; obtain rfl := hw.symm)
          | (go_at_call 11; have _t := tok; refine (scope_short s (.inr hbig64) _).mono ?_; rintro e w3 ⟨rfl, hw⟩; obtain rfl := hw.symm; clear tok)
          | (go_at_call 12; refine (up_no s hsm hu _).mono ?_; rintro e w3 ⟨rfl, hw⟩; obtain rfl := hw.symm)
          | (go_at_call 13; refine (idx_yes _ hl _).mono ?_; rintro e w3 ⟨r, rfl, hr0, hr36, hw⟩; obtain rfl := hw.symm))
        refine (scope_yes _ ha _).mono ?_
        rintro e w3 ⟨rfl, hw⟩
        obtain rfl := hw.symm
        go_wp2_with fail
        refine (scope_no _ hb _).mono ?_
        rintro e w3 ⟨rfl, hw⟩
        obtain rfl := hw.symm
        go_wp2_with fail
        refine (code_no s hc _).mono ?_
        rintro e w3 ⟨rfl, hw⟩
        obtain rfl := hw.symm
        go_wp2_with fail
        go_ret
        exact ⟨rfl, rfl⟩
    · have hc : ¬ CodeP s := fun e => ha (hib.1 e).1
      clear hib
      go_enter Try.func3, Try.ntmps3
      go_wp2_with (first
        | (go_at_call 10; refine (bytes10 s hsm _).mono ?_; rintro e w1 ⟨rfl, hw⟩; obtain rfl := hw.symm)
        | (go_at_call 11; have _t := tok; refine (scope_short s (.inr hbig64) _).mono ?_; rintro e w3 ⟨rfl, hw⟩; obtain rfl := hw.symm; clear tok)
        | (go_at_call 12; refine (up_no s hsm hu _).mono ?_; rintro e w3 ⟨rfl, hw⟩; obtain rfl := hw.symm)
        | (go_at_call 13; refine (idx_yes _ hl _).mono ?_; rintro e w3 ⟨r, rfl, hr0, hr36, hw⟩; obtain rfl := hw.symm))
      refine (scope_no _ ha _).mono ?_
      rintro e w3 ⟨rfl, hw⟩
      obtain rfl := hw.symm
      go_wp2_with fail
      refine (code_no s hc _).mono ?_
      rintro e w3 ⟨rfl, hw⟩
      obtain rfl := hw.symm
      go_wp2_with fail
      go_ret
      exact ⟨rfl, rfl⟩
  · have hc := code_not_first s (by omega) hl
    go_enter Try.func3, Try.ntmps3
    go_wp2_with (first
      | (go_at_call 10; refine (bytes10 s hsm _).mono ?_; rintro e w1 ⟨rfl, hw⟩; obtain rfl := hw.symm)
      | (go_at_call 11; have _t := tok; refine (scope_short s (.inr hbig64) _).mono ?_; rintro e w3 ⟨rfl, hw⟩; obtain rfl := hw.symm; clear tok)
      | (go_at_call 12; refine (up_no s hsm hu _).mono ?_; rintro e w3 ⟨rfl, hw⟩; obtain rfl := hw.symm)
      | (go_at_call 13; refine (idx_no _ hl _).mono ?_; rintro e w3 ⟨r, rfl, hr, hw⟩; obtain rfl := hw.symm; rcases hr with rfl | hr)
      | (go_at_call 14; refine (code_no s (hc) _).mono ?_; rintro e w3 ⟨rfl, hw⟩; obtain rfl := hw.symm))
    all_goals (go_ret; exact ⟨rfl, rfl⟩)

theorem code_law (s : ByteArray) (hm : s.size ≤ maxLen) (w : World) : Calls Try.prog 3 #[.string s] w fun e w' => e = .returned (.bool true) ∧ w' = w := by
  unfold maxLen at hm
  by_cases hbig : 1048576 < s.size
  · exact law_huge s hbig (by omega) w
  by_cases h0 : s.size < 1
  · exact law_empty s h0 w
  by_cases h64 : s.size ≤ 64
  · exact law_small s (by omega) h64 w
  by_cases h128 : s.size ≤ 128
  · exact law_mid s (by omega) h128 w
  · exact law_long s (by omega) (by omega) w
end Go.Proofs.Qxb6602176a
