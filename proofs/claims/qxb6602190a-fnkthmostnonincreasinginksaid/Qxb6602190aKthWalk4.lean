/-
  Seat b6602190a: the walk of 'FnKthMostNonIncreasingInK' (4).
-/
import Derived.Test.Qxb6602190aKthWalk3
namespace Go.Proofs.Qxb6602190a
open Go.RowKit

set_option maxHeartbeats 4000000 in
set_option maxRecDepth 100000 in
theorem walk4_ok (b off cap n k : Nat) (ss : Nat → Int) (w : World) (hn : n ≤ 131072) (hk1 : 1 ≤ k) (hk2 : k < n) (hb : b < w.heap.size) (hc : ∀ i, i < n → w.cell? ⟨b, off + i, none⟩ = some (.int .i64 (ss i))) (hss : ∀ i, i < n → ss i < 9223372036854775808) :
    Calls Try.prog 4 #[.slice (some ⟨b, off, none⟩) n cap, .int .i64 k] w fun e w' => e = .returned (.bool true) ∧ Below w.heap.size w w' := by
  have H10 := bytes10_any (some ⟨b, off, none⟩) cap n k w (by unfold maxLen; omega)
  have hg1 : decide ((k : Int) < 1) = false := decide_eq_false (by omega)
  have hg2 : decide ((n : Int) ≤ (k : Int)) = false := decide_eq_false (by omega)
  go_enter Try.func4, Try.ntmps4
  go_wp2_with (go_at_call 10; refine H10.mono ?_; rintro e w' ⟨r, rfl, hw⟩; obtain rfl := hw.symm; cases r)
  · go_ret
    exact ⟨rfl, Below.refl _ _⟩
  clear H10
  go_loop [5] (fun i => ∃ j : Nat, j ≤ n ∧ i = .int .i64 j ∧ ∀ q, q < j → 0 ≤ ss q) (fun i => n - (intOf i).toNat)
  case atStart => exact ⟨0, Nat.zero_le _, rfl, fun q h => by omega⟩
  case round =>
    obtain ⟨j, hj, rfl, hnn⟩ := hrel
    by_cases hjn : j < n
    · have hcell := hc j hjn
      clear hc hss
      by_cases hneg : ss j < 0
      · go_wp2
        go_ret
        exact ⟨rfl, Below.refl _ _⟩
      · have hnq : Hid (∀ q, q < j → 0 ≤ ss q) := hnn
        clear hnn
        go_wp2
        go_round
        case rel =>
          refine ⟨j + 1, by omega, by go_num, fun q h => ?_⟩
          rcases Nat.lt_succ_iff_lt_or_eq.1 h with h | rfl
          · exact hnq.out q h
          · omega
        case measure => simp [intOf]; omega
    · obtain rfl : j = n := by omega
      obtain ⟨s, hs, hs63⟩ := shares_nat hnn hss
      have H7 := clone7_any b off cap j (fun i => (s i : Int)) w (by omega) (by omega) hb (fun i hi => by rw [hc i hi, hs i hi])
      clear hc hss hnn hs hjn
      have hsq : Hid (∀ i, i < j → s i < 9223372036854775808) := hs63
      clear hs63
      go_wp2_with (first
        | (go_at_call 7; refine H7.mono ?_; rintro e w1 ⟨rfl, hrow, hb1⟩; have H8 := registerOf_any w.heap.size j j (fun i => (s i : Int)) w1 hn hrow)
        | (go_at_call 8; refine H8.mono ?_; rintro e w2 ⟨rfl, hra⟩; obtain ⟨⟨v0, cbs0, hr0⟩, hb2⟩ := hra.opened; have H9 := zzkth_any _ _ j 0 k v0 cbs0 s w2 hr0 hn hsq.out hk1 (by omega); have hr0q : Hid (RegIs w2 w1.heap.size w1.heap.size v0 cbs0 (fun i => (s i : Int)) j 0) := hr0; clear hra hr0)
        | (go_at_call 9; refine H9.mono ?_; rintro e w3 ⟨u, rfl, hku, hb3⟩; have H9b := zzkth_any _ _ j 0 (k + 1) v0 cbs0 s w3 (hr0q.out.below hb3) hn hsq.out (by omega) (by omega); rw [Int.natCast_add] at H9b; clear H9)
        | (go_at_call 9; refine H9b.mono ?_; rintro e w4 ⟨v, rfl, hkv, hb4⟩))
      go_ret
      refine ⟨?_, hb1.trans ((hb2.mono hb1.size).trans ((hb3.mono (Nat.le_trans hb1.size hb2.size)).trans (hb4.mono (Nat.le_trans hb1.size (Nat.le_trans hb2.size hb3.size)))))⟩
      show Ending.returned (.bool (decide (v ≤ u))) = _
      rw [decide_eq_true (kth_mono hku hkv)]

theorem walk4_any (a : Option Addr) (cap n : Nat) (k : Int) (ss : Nat → Int) (w : World) (hm : n ≤ maxLen) (hs : IntsAt w a n ss) (hss : ∀ i, i < n → ss i < 9223372036854775808) :
    Calls Try.prog 4 #[.slice a n cap, .int .i64 k] w fun e w' => e = .returned (.bool true) ∧ Below w.heap.size w w' := by
  have H10 := bytes10_any a cap n k w hm
  unfold maxLen at hm
  by_cases hbig : 131072 < n
  · clear hs hss
    go_enter Try.func4, Try.ntmps4
    go_wp2_with (go_at_call 10; refine H10.mono ?_; rintro e w' ⟨r, rfl, hw⟩; obtain rfl := hw.symm; cases r)
    · go_ret
      exact ⟨rfl, Below.refl _ _⟩
    · go_ret
      exact ⟨rfl, Below.refl _ _⟩
  have hn : n ≤ 131072 := by omega
  clear hbig
  by_cases h1 : k < 1
  · have hg1 : decide (k < 1) = true := decide_eq_true h1
    clear hs hss
    go_enter Try.func4, Try.ntmps4
    go_wp2_with (go_at_call 10; refine H10.mono ?_; rintro e w' ⟨r, rfl, hw⟩; obtain rfl := hw.symm; cases r)
    · go_ret
      exact ⟨rfl, Below.refl _ _⟩
    · go_ret
      exact ⟨rfl, Below.refl _ _⟩
  have hg1 : decide (k < 1) = false := decide_eq_false h1
  by_cases h2 : (n : Int) ≤ k
  · have hg2 : decide ((n : Int) ≤ k) = true := decide_eq_true h2
    clear hs hss
    go_enter Try.func4, Try.ntmps4
    go_wp2_with (go_at_call 10; refine H10.mono ?_; rintro e w' ⟨r, rfl, hw⟩; obtain rfl := hw.symm; cases r)
    · go_ret
      exact ⟨rfl, Below.refl _ _⟩
    · go_ret
      exact ⟨rfl, Below.refl _ _⟩
  obtain ⟨m, rfl⟩ : ∃ m : Nat, k = m := ⟨k.toNat, by omega⟩
  rcases hs with rfl | ⟨b, off, rfl, hb, hc⟩
  · omega
  exact walk4_ok b off cap n m ss w hn (by omega) (by omega) hb hc hss
end Go.Proofs.Qxb6602190a
