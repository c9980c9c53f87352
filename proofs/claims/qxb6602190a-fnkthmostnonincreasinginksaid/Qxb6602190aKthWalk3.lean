/-
  Seat b6602190a: ZZkthMost (9), and the walk of 'FnKthMostIsKthLargest' (3).
-/
import Derived.Test.Qxb6602190aKth
namespace Go.Proofs.Qxb6602190a
open Go.RowKit

/-- ZZkthMost hands on to kthMost. -/
theorem zzkth_any (B rb n T k : Nat) (v : Value) (cbs : List Nat) (s : Nat → Nat) (w : World) (hr : RegIs w B rb v cbs (fun i => (s i : Int)) n T) (hn : n ≤ 131072) (hs : ∀ i, i < n → s i < 9223372036854775808) (hk1 : 1 ≤ k) (hk2 : k ≤ n) :
    Calls Try.prog 9 #[.pointer (some ⟨rb, 0, none⟩), .int .i64 k] w (KthPost s n k w) := by
  have H := kth_any B rb n T k v cbs s w hr hn hs hk1 hk2
  clear hr hs
  go_enter Try.func9, Try.ntmps9
  go_wp2_with (go_at_call 16; refine H.mono ?_; rintro e w1 ⟨v, rfl, hk, hbel⟩)
  go_ret
  exact ⟨v, rfl, hk, hbel⟩

/-- Behind registerOf: the register stands, and nothing old has turned. -/
theorem RegAt.opened {w1 w2 : World} {s : Nat → Nat} {n : Nat} (h : RegAt (w1.alloc (.cells #[.slice none 0 0, .int .i64 0] 36)) w2 w1.heap.size w1.heap.size (fun i => (s i : Int)) n 0) :
    (∃ v cbs, RegIs w2 w1.heap.size w1.heap.size v cbs (fun i => (s i : Int)) n 0) ∧ Below w1.heap.size w1 w2 := by
  obtain ⟨v, cbs, hr, _, hk⟩ := h
  exact ⟨⟨v, cbs, hr⟩, ((Below.refl w1.heap.size w1).alloc (Nat.le_refl _) _).trans (hk.below (fun _ e => e) (by simp))⟩

/-- The shares as naturals. -/
theorem shares_nat {n : Nat} {ss : Nat → Int} (h0 : ∀ i, i < n → 0 ≤ ss i) (h1 : ∀ i, i < n → ss i < 9223372036854775808) :
    ∃ s : Nat → Nat, (∀ i, i < n → ss i = (s i : Int)) ∧ ∀ i, i < n → s i < 9223372036854775808 :=
  ⟨fun i => (ss i).toNat, fun i hi => by have := h0 i hi; show ss i = ((ss i).toNat : Int); omega, fun i hi => by have := h0 i hi; have := h1 i hi; show (ss i).toNat < _; omega⟩

/-- The three counts of the law, q shares in. -/
def above (s : Nat → Nat) (v q : Nat) : Nat := cnt (fun i => decide (v < s i)) q
def same (s : Nat → Nat) (v q : Nat) : Nat := cnt (fun i => decide (s i = v)) q
theorem above_next (s : Nat → Nat) (v q : Nat) : above s v (q + 1) = above s v q + if v < s q then 1 else 0 := by simp [above, cnt]
theorem same_next (s : Nat → Nat) (v q : Nat) : same s v (q + 1) = same s v q + if s q = v then 1 else 0 := by simp [same, cnt]

/-- What the last loop holds. -/
def Rel3 (s : Nat → Nat) (v n q : Nat) (p g a i : Value) : Prop :=
  q ≤ n ∧ p = .bool (decide (0 < same s v q)) ∧ g = .int .i64 (above s v q : Nat) ∧ a = .int .i64 (above s v q + same s v q : Nat) ∧ i = .int .i64 (q : Nat)

set_option maxHeartbeats 4000000 in
set_option maxRecDepth 100000 in
theorem walk3_ok (b off cap n k : Nat) (ss : Nat → Int) (w : World) (hn : n ≤ 131072) (hk1 : 1 ≤ k) (hk2 : k ≤ n) (hb : b < w.heap.size) (hc : ∀ i, i < n → w.cell? ⟨b, off + i, none⟩ = some (.int .i64 (ss i))) (hss : ∀ i, i < n → ss i < 9223372036854775808) :
    Calls Try.prog 3 #[.slice (some ⟨b, off, none⟩) n cap, .int .i64 k] w fun e w' => e = .returned (.bool true) ∧ Below w.heap.size w w' := by
  have H6 := bytes6_any (some ⟨b, off, none⟩) cap n k w (by unfold maxLen; omega)
  have hg1 : decide ((k : Int) < 1) = false := decide_eq_false (by omega)
  have hg2 : decide ((n : Int) < (k : Int)) = false := decide_eq_false (by omega)
  go_enter Try.func3, Try.ntmps3
  go_wp2_with (go_at_call 6; refine H6.mono ?_; rintro e w' ⟨r, rfl, hw⟩; obtain rfl := hw.symm; cases r)
  · go_ret
    exact ⟨rfl, Below.refl _ _⟩
  clear H6
  go_loop [5] (fun i => ∃ j : Nat, j ≤ n ∧ i = .int .i64 j ∧ ∀ q, q < j → 0 ≤ ss q) (fun i => n - (intOf i).toNat)
  case atStart => exact ⟨0, Nat.zero_le _, rfl, fun q h => by omega⟩
  case round =>
    obtain ⟨j, hj, rfl, hnn⟩ := hrel
    by_cases hjn : j < n
    · have hcell := hc j hjn
      clear hc hss
      by_cases hneg : ss j < 0
      · go_wp2
        go_ret
        exact ⟨rfl, Below.refl _ _⟩
      · have hnq : Hid (∀ q, q < j → 0 ≤ ss q) := hnn
        clear hnn
        go_wp2
        go_round
        case rel =>
          refine ⟨j + 1, by omega, by go_num, fun q h => ?_⟩
          rcases Nat.lt_succ_iff_lt_or_eq.1 h with h | rfl
          · exact hnq.out q h
          · omega
        case measure => simp [intOf]; omega
    · obtain rfl : j = n := by omega
      obtain ⟨s, hs, hs63⟩ := shares_nat hnn hss
      have H7 := clone7_any b off cap j (fun i => (s i : Int)) w (by omega) (by omega) hb (fun i hi => by rw [hc i hi, hs i hi])
      clear hc hss hnn hs hjn
      have hsq : Hid (∀ i, i < j → s i < 9223372036854775808) := hs63
      clear hs63
      go_wp2_with (first
        | (go_at_call 7; refine H7.mono ?_; rintro e w1 ⟨rfl, hrow, hb1⟩; have H8 := registerOf_any w.heap.size j j (fun i => (s i : Int)) w1 hn hrow)
        | (go_at_call 8; refine H8.mono ?_; rintro e w2 ⟨rfl, hra⟩; obtain ⟨⟨v0, cbs0, hr0⟩, hb2⟩ := hra.opened; have H9 := zzkth_any _ _ j 0 k v0 cbs0 s w2 hr0 hn hsq.out hk1 hk2; clear hra hr0)
        | (go_at_call 9; refine H9.mono ?_; rintro e w3 ⟨v, rfl, hkth, hb3⟩))
      have hcl : ∀ q, q < j → w3.cell? ⟨w.heap.size, q, none⟩ = some (.int .i64 (s q : Nat)) := fun q hq =>
        (hb3.cell (p := ⟨w.heap.size, q, none⟩) (Nat.lt_of_lt_of_le hrow.lt hb2.size)).trans ((hb2.cell (p := ⟨w.heap.size, q, none⟩) hrow.lt).trans (hrow.cell hq))
      have hbw : Below w.heap.size w w3 := hb1.trans ((hb2.mono hb1.size).trans (hb3.mono (Nat.le_trans hb1.size hb2.size)))
      clear H7 H8 H9 hrow hb1 hb2 hb3
      go_loop [8, 9, 10, 11] (fun p g a i => ∃ q, Rel3 s v j q p g a i) (fun _ _ _ i => j - (intOf i).toNat)
      case atStart => exact ⟨0, Nat.zero_le _, rfl, rfl, rfl, rfl⟩
      case round =>
        obtain ⟨q, hq, rfl, rfl, rfl, rfl⟩ := hrel
        have ha : above s v q ≤ q := cnt_bound _ _
        have hsm : same s v q ≤ q := cnt_bound _ _
        by_cases hqj : q < j
        · have hcell := hcl q hqj
          have hsv := hsq.out q hqj
          have n1 := above_next s v q
          have n2 := same_next s v q
          clear hcl
          obtain ⟨x, hx⟩ : ∃ x, s q = x := ⟨_, rfl⟩
          rw [hx] at hcell n1 n2 hsv
          obtain ⟨A, hA⟩ : ∃ A, above s v q = A := ⟨_, rfl⟩
          obtain ⟨E, hE⟩ : ∃ E, same s v q = E := ⟨_, rfl⟩
          rw [hA] at n1 ha ⊢
          rw [hE] at n2 hsm ⊢
          have m1 : Hid (above s v (q + 1) = A + if v < x then 1 else 0) := n1
          have m2 : Hid (same s v (q + 1) = E + if x = v then 1 else 0) := n2
          clear n1 n2 hA hE hx
          rcases Nat.lt_trichotomy v x with h | h | h
          · have e1 := m1.out
            have e2 := m2.out
            rw [if_pos h] at e1
            rw [if_neg (by omega)] at e2
            have e1' : Hid (above s v (q + 1) = A + 1) := e1
            have e2' : Hid (same s v (q + 1) = E) := e2
            clear e1 e2 m1 m2
            go_wp2
            go_round
            case rel =>
              have z1 := e1'.out
              have z2 := e2'.out
              exact ⟨q + 1, by omega, congrArg Value.bool (by rw [z2]), congrArg (Value.int .i64) (by omega), congrArg (Value.int .i64) (by omega), congrArg (Value.int .i64) (by omega)⟩
            case measure => simp [intOf]; omega
          · have e1 := m1.out
            have e2 := m2.out
            rw [if_neg (by omega)] at e1
            rw [if_pos h.symm] at e2
            have e1' : Hid (above s v (q + 1) = A) := e1
            have e2' : Hid (same s v (q + 1) = E + 1) := e2
            clear e1 e2 m1 m2
            go_wp2
            go_round
            case rel =>
              have z1 := e1'.out
              have z2 := e2'.out
              exact ⟨q + 1, by omega, congrArg Value.bool (by rw [z2]; simp), congrArg (Value.int .i64) (by omega), congrArg (Value.int .i64) (by omega), congrArg (Value.int .i64) (by omega)⟩
            case measure => simp [intOf]; omega
          · have e1 := m1.out
            have e2 := m2.out
            rw [if_neg (by omega)] at e1
            rw [if_neg (by omega)] at e2
            have e1' : Hid (above s v (q + 1) = A) := e1
            have e2' : Hid (same s v (q + 1) = E) := e2
            clear e1 e2 m1 m2
            go_wp2
            go_round
            case rel =>
              have z1 := e1'.out
              have z2 := e2'.out
              exact ⟨q + 1, by omega, congrArg Value.bool (by rw [z2]), congrArg (Value.int .i64) (by omega), congrArg (Value.int .i64) (by omega), congrArg (Value.int .i64) (by omega)⟩
            case measure => simp [intOf]; omega
        · obtain rfl : q = j := by omega
          have h1 : above s v q < k := hkth.1
          have h2 : k ≤ above s v q + same s v q := hkth.2
          have hp : decide (0 < same s v q) = true := decide_eq_true (by omega)
          rw [hp]
          obtain ⟨A, hA⟩ : ∃ A, above s v q = A := ⟨_, rfl⟩
          obtain ⟨E, hE⟩ : ∃ E, same s v q = E := ⟨_, rfl⟩
          rw [hA] at h1 h2 ha ⊢
          rw [hE] at h2 hsm ⊢
          clear hA hE hp hkth hcl hsq
          go_wp2
          go_ret
          refine ⟨?_, hbw⟩
          show Ending.returned (.bool (decide ((k : Int) ≤ (A : Int) + (E : Int)))) = _
          rw [decide_eq_true (by omega)]

theorem walk3_any (a : Option Addr) (cap n : Nat) (k : Int) (ss : Nat → Int) (w : World) (hm : n ≤ maxLen) (hs : IntsAt w a n ss) (hss : ∀ i, i < n → ss i < 9223372036854775808) :
    Calls Try.prog 3 #[.slice a n cap, .int .i64 k] w fun e w' => e = .returned (.bool true) ∧ Below w.heap.size w w' := by
  have H6 := bytes6_any a cap n k w hm
  unfold maxLen at hm
  by_cases hbig : 131072 < n
  · clear hs hss
    go_enter Try.func3, Try.ntmps3
    go_wp2_with (go_at_call 6; refine H6.mono ?_; rintro e w' ⟨r, rfl, hw⟩; obtain rfl := hw.symm; cases r)
    · go_ret
      exact ⟨rfl, Below.refl _ _⟩
    · go_ret
      exact ⟨rfl, Below.refl _ _⟩
  have hn : n ≤ 131072 := by omega
  clear hbig
  by_cases h1 : k < 1
  · have hg1 : decide (k < 1) = true := decide_eq_true h1
    clear hs hss
    go_enter Try.func3, Try.ntmps3
    go_wp2_with (go_at_call 6; refine H6.mono ?_; rintro e w' ⟨r, rfl, hw⟩; obtain rfl := hw.symm; cases r)
    · go_ret
      exact ⟨rfl, Below.refl _ _⟩
    · go_ret
      exact ⟨rfl, Below.refl _ _⟩
  have hg1 : decide (k < 1) = false := decide_eq_false h1
  by_cases h2 : (n : Int) < k
  · have hg2 : decide ((n : Int) < k) = true := decide_eq_true h2
    clear hs hss
    go_enter Try.func3, Try.ntmps3
    go_wp2_with (go_at_call 6; refine H6.mono ?_; rintro e w' ⟨r, rfl, hw⟩; obtain rfl := hw.symm; cases r)
    · go_ret
      exact ⟨rfl, Below.refl _ _⟩
    · go_ret
      exact ⟨rfl, Below.refl _ _⟩
  obtain ⟨m, rfl⟩ : ∃ m : Nat, k = m := ⟨k.toNat, by omega⟩
  rcases hs with rfl | ⟨b, off, rfl, hb, hc⟩
  · omega
  exact walk3_ok b off cap n m ss w hn (by omega) (by omega) hb hc hss
end Go.Proofs.Qxb6602190a
