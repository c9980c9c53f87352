/-
  Seat b6602130a: the walk of FnKeySetAddFromAnyStateHoldsTheUnion (function 4): the count is out of range.
-/
import Derived.Test.Qxb6602130aUnion
import Derived.Deep.RegionHeld3
namespace Go.Proofs.Qxb6602130a
open Go.RowKit
set_option linter.unusedVariables false

set_option maxHeartbeats 4000000 in
set_option maxRecDepth 100000 in
theorem union_outA (few : Nat → ByteArray) (nn : Int) (a : Option Addr) (cap n : Nat) (ss : Nat → ByteArray) (a2 : Option Addr) (cap2 n2 : Nat) (bs : Nat → Bool) (mnil : Bool) (k : ByteArray) (hks : k.size ≤ maxLen) (hfs : ∀ i, i < 16 → (few i).size ≤ maxLen) (hss : ∀ i, i < n → (ss i).size ≤ maxLen) (w : World) (hm : n ≤ maxLen) (hm2 : n2 ≤ maxLen) (hs : StrsAt w a n ss) (hs2 : BoolsAt w a2 n2 bs) (hsm : n ≤ 4096) (hsm2 : n2 ≤ 4096) (hkm : k.size ≤ 1048576) (hz : n = 0) (hr : nn < 0) :
    Calls Try.prog 4 #[.agg #[.string (few 0), .string (few 1), .string (few 2), .string (few 3), .string (few 4), .string (few 5), .string (few 6), .string (few 7), .string (few 8), .string (few 9), .string (few 10), .string (few 11), .string (few 12), .string (few 13), .string (few 14), .string (few 15)], .int .i64 nn, .slice a n cap, .slice a2 n2 cap2, .bool mnil, .string k] w fun e w' => e = .returned (.bool true) ∧ Below w.heap.size w w' := by
  have hB0 : Below w.heap.size w (w.alloc (.cells #[.string (few 0), .string (few 1), .string (few 2), .string (few 3), .string (few 4), .string (few 5), .string (few 6), .string (few 7), .string (few 8), .string (few 9), .string (few 10), .string (few 11), .string (few 12), .string (few 13), .string (few 14), .string (few 15)] 25)) := (Below.refl _ _).alloc (Nat.le_refl _) _
  have hb1 := bytes2_any few nn a cap n ss a2 cap2 n2 mnil k hks hfs hss (w.alloc (.cells #[.string (few 0), .string (few 1), .string (few 2), .string (few 3), .string (few 4), .string (few 5), .string (few 6), .string (few 7), .string (few 8), .string (few 9), .string (few 10), .string (few 11), .string (few 12), .string (few 13), .string (few 14), .string (few 15)] 25)) hm hm2 (hs.below hB0 (Nat.le_refl _))
  have H1 : Hid (Calls Try.prog 13 #[.agg #[.string (few 0), .string (few 1), .string (few 2), .string (few 3), .string (few 4), .string (few 5), .string (few 6), .string (few 7), .string (few 8), .string (few 9), .string (few 10), .string (few 11), .string (few 12), .string (few 13), .string (few 14), .string (few 15)], .int .i64 nn, .slice a n cap, .slice a2 n2 cap2, .bool mnil, .string k] (w.alloc (.cells #[.string (few 0), .string (few 1), .string (few 2), .string (few 3), .string (few 4), .string (few 5), .string (few 6), .string (few 7), .string (few 8), .string (few 9), .string (few 10), .string (few 11), .string (few 12), .string (few 13), .string (few 14), .string (few 15)] 25)) fun e w' => AnyBool e ∧ Below (w.alloc (.cells #[.string (few 0), .string (few 1), .string (few 2), .string (few 3), .string (few 4), .string (few 5), .string (few 6), .string (few 7), .string (few 8), .string (few 9), .string (few 10), .string (few 11), .string (few 12), .string (few 13), .string (few 14), .string (few 15)] 25)).heap.size (w.alloc (.cells #[.string (few 0), .string (few 1), .string (few 2), .string (few 3), .string (few 4), .string (few 5), .string (few 6), .string (few 7), .string (few 8), .string (few 9), .string (few 10), .string (few 11), .string (few 12), .string (few 13), .string (few 14), .string (few 15)] 25)) w') := hb1
  have e1 : decide ((4096 : Int) < n) = false := by simp; omega
  have e2 : decide ((4096 : Int) < n2) = false := by simp; omega
  have e3 : decide ((1048576 : Int) < k.size) = false := by simp; omega
  have hmk := mkMap
  clear hb1 hm hm2
  subst hz
  clear e1 hsm
  have e6 : decide (nn < 0) = true := by simpa using hr
  go_enter Try.func4, Try.ntmps4
  go_wp2_with (go_at_call 13; refine H1.out.mono ?_; rintro e w1 ⟨⟨r, rfl⟩, hb2⟩; cases r)
  · go_ret; exact ⟨rfl, hB0.trans (hb2.mono (by simp))⟩
  clear H1
  have hB1 : Below w.heap.size w w1 := hB0.trans (hb2.mono (by simp))
  have hH1 : w1.heap[w.heap.size]? = some (.cells #[.string (few 0), .string (few 1), .string (few 2), .string (few 3), .string (few 4), .string (few 5), .string (few 6), .string (few 7), .string (few 8), .string (few 9), .string (few 10), .string (few 11), .string (few 12), .string (few 13), .string (few 14), .string (few 15)] 25 (0, 0)) := heap_kept (heap_alloc_new w _) hb2 (by simp)
  have hws : w.heap.size < w1.heap.size := by have := hb2.size; simp at this; omega
  have hs1 := hs.below hB1 (Nat.le_refl _)
  have hs21 := hs2.below hB1 (Nat.le_refl _)
  clear hb2 hB0 hs hs2
  have HC : Hid (∀ i, i < 16 → w1.cell? ⟨w.heap.size, i, none⟩ = some (.string (few i))) := fun i hi => by
    have := few16_at few i hi
    simp only [World.cell?, hH1]
    exact this
  go_loop [13, 14] (fun t i => ∃ (j : Nat) (z : Int), j ≤ 16 ∧ i = .int .i64 j ∧ t = .int .i64 z ∧ 0 ≤ z ∧ z ≤ 2097152) (fun _ i => 16 - (intOf i).toNat)
  case atStart => exact ⟨0, _, Nat.zero_le _, rfl, rfl, by omega, by omega⟩
  case round =>
    obtain ⟨j, z, hj, rfl, rfl, hzA, hzB⟩ := hrel
    by_cases hlt : j < 16
    · have hcj := HC.out j hlt
      have hsj := hfs j hlt
      unfold maxLen at hsj
      clear hfs hss
      go_wp2
      · go_ret; exact ⟨rfl, hB1⟩
      · go_ret; exact ⟨rfl, hB1⟩
      · go_round
        case rel => exact ⟨j + 1, _, by omega, by go_num, rfl, by omega, by omega⟩
        case measure => simp [intOf]; omega
    obtain rfl : j = 16 := by omega
    clear hlt hj
    go_wp2
    go_loop [13, 15] (fun t i => ∃ (j : Nat) (z : Int), j ≤ 0 ∧ i = .int .i64 j ∧ t = .int .i64 z ∧ 0 ≤ z ∧ z ≤ 2097152) (fun _ i => 0 - (intOf i).toNat)
    case atStart => exact ⟨0, _, Nat.zero_le _, rfl, rfl, by omega, by omega⟩
    case round =>
      obtain ⟨j, z, hj, rfl, rfl, hzA, hzB⟩ := hrel
      by_cases hlt : j < 0
      · exact absurd hlt (Nat.not_lt_zero j)
      obtain rfl : 0 = j := by omega
      clear hlt hj
      go_wp2
      go_ret
      exact ⟨rfl, hB1⟩

set_option maxHeartbeats 4000000 in
set_option maxRecDepth 100000 in
theorem union_outB (few : Nat → ByteArray) (nn : Int) (a : Option Addr) (cap n : Nat) (ss : Nat → ByteArray) (a2 : Option Addr) (cap2 n2 : Nat) (bs : Nat → Bool) (mnil : Bool) (k : ByteArray) (hks : k.size ≤ maxLen) (hfs : ∀ i, i < 16 → (few i).size ≤ maxLen) (hss : ∀ i, i < n → (ss i).size ≤ maxLen) (w : World) (hm : n ≤ maxLen) (hm2 : n2 ≤ maxLen) (hs : StrsAt w a n ss) (hs2 : BoolsAt w a2 n2 bs) (hsm : n ≤ 4096) (hsm2 : n2 ≤ 4096) (hkm : k.size ≤ 1048576) (hz : n = 0) (hr : ¬ nn < 0) (hr2 : 16 < nn) :
    Calls Try.prog 4 #[.agg #[.string (few 0), .string (few 1), .string (few 2), .string (few 3), .string (few 4), .string (few 5), .string (few 6), .string (few 7), .string (few 8), .string (few 9), .string (few 10), .string (few 11), .string (few 12), .string (few 13), .string (few 14), .string (few 15)], .int .i64 nn, .slice a n cap, .slice a2 n2 cap2, .bool mnil, .string k] w fun e w' => e = .returned (.bool true) ∧ Below w.heap.size w w' := by
  have hB0 : Below w.heap.size w (w.alloc (.cells #[.string (few 0), .string (few 1), .string (few 2), .string (few 3), .string (few 4), .string (few 5), .string (few 6), .string (few 7), .string (few 8), .string (few 9), .string (few 10), .string (few 11), .string (few 12), .string (few 13), .string (few 14), .string (few 15)] 25)) := (Below.refl _ _).alloc (Nat.le_refl _) _
  have hb1 := bytes2_any few nn a cap n ss a2 cap2 n2 mnil k hks hfs hss (w.alloc (.cells #[.string (few 0), .string (few 1), .string (few 2), .string (few 3), .string (few 4), .string (few 5), .string (few 6), .string (few 7), .string (few 8), .string (few 9), .string (few 10), .string (few 11), .string (few 12), .string (few 13), .string (few 14), .string (few 15)] 25)) hm hm2 (hs.below hB0 (Nat.le_refl _))
  have H1 : Hid (Calls Try.prog 13 #[.agg #[.string (few 0), .string (few 1), .string (few 2), .string (few 3), .string (few 4), .string (few 5), .string (few 6), .string (few 7), .string (few 8), .string (few 9), .string (few 10), .string (few 11), .string (few 12), .string (few 13), .string (few 14), .string (few 15)], .int .i64 nn, .slice a n cap, .slice a2 n2 cap2, .bool mnil, .string k] (w.alloc (.cells #[.string (few 0), .string (few 1), .string (few 2), .string (few 3), .string (few 4), .string (few 5), .string (few 6), .string (few 7), .string (few 8), .string (few 9), .string (few 10), .string (few 11), .string (few 12), .string (few 13), .string (few 14), .string (few 15)] 25)) fun e w' => AnyBool e ∧ Below (w.alloc (.cells #[.string (few 0), .string (few 1), .string (few 2), .string (few 3), .string (few 4), .string (few 5), .string (few 6), .string (few 7), .string (few 8), .string (few 9), .string (few 10), .string (few 11), .string (few 12), .string (few 13), .string (few 14), .string (few 15)] 25)).heap.size (w.alloc (.cells #[.string (few 0), .string (few 1), .string (few 2), .string (few 3), .string (few 4), .string (few 5), .string (few 6), .string (few 7), .string (few 8), .string (few 9), .string (few 10), .string (few 11), .string (few 12), .string (few 13), .string (few 14), .string (few 15)] 25)) w') := hb1
  have e1 : decide ((4096 : Int) < n) = false := by simp; omega
  have e2 : decide ((4096 : Int) < n2) = false := by simp; omega
  have e3 : decide ((1048576 : Int) < k.size) = false := by simp; omega
  have hmk := mkMap
  clear hb1 hm hm2
  subst hz
  clear e1 hsm
  have e6 : decide (nn < 0) = false := by simpa using hr
  have e7 : decide (16 < nn) = true := by simpa using hr2
  go_enter Try.func4, Try.ntmps4
  go_wp2_with (go_at_call 13; refine H1.out.mono ?_; rintro e w1 ⟨⟨r, rfl⟩, hb2⟩; cases r)
  · go_ret; exact ⟨rfl, hB0.trans (hb2.mono (by simp))⟩
  clear H1
  have hB1 : Below w.heap.size w w1 := hB0.trans (hb2.mono (by simp))
  have hH1 : w1.heap[w.heap.size]? = some (.cells #[.string (few 0), .string (few 1), .string (few 2), .string (few 3), .string (few 4), .string (few 5), .string (few 6), .string (few 7), .string (few 8), .string (few 9), .string (few 10), .string (few 11), .string (few 12), .string (few 13), .string (few 14), .string (few 15)] 25 (0, 0)) := heap_kept (heap_alloc_new w _) hb2 (by simp)
  have hws : w.heap.size < w1.heap.size := by have := hb2.size; simp at this; omega
  have hs1 := hs.below hB1 (Nat.le_refl _)
  have hs21 := hs2.below hB1 (Nat.le_refl _)
  clear hb2 hB0 hs hs2
  have HC : Hid (∀ i, i < 16 → w1.cell? ⟨w.heap.size, i, none⟩ = some (.string (few i))) := fun i hi => by
    have := few16_at few i hi
    simp only [World.cell?, hH1]
    exact this
  go_loop [13, 14] (fun t i => ∃ (j : Nat) (z : Int), j ≤ 16 ∧ i = .int .i64 j ∧ t = .int .i64 z ∧ 0 ≤ z ∧ z ≤ 2097152) (fun _ i => 16 - (intOf i).toNat)
  case atStart => exact ⟨0, _, Nat.zero_le _, rfl, rfl, by omega, by omega⟩
  case round =>
    obtain ⟨j, z, hj, rfl, rfl, hzA, hzB⟩ := hrel
    by_cases hlt : j < 16
    · have hcj := HC.out j hlt
      have hsj := hfs j hlt
      unfold maxLen at hsj
      clear hfs hss
      go_wp2
      · go_ret; exact ⟨rfl, hB1⟩
      · go_ret; exact ⟨rfl, hB1⟩
      · go_round
        case rel => exact ⟨j + 1, _, by omega, by go_num, rfl, by omega, by omega⟩
        case measure => simp [intOf]; omega
    obtain rfl : j = 16 := by omega
    clear hlt hj
    go_wp2
    go_loop [13, 15] (fun t i => ∃ (j : Nat) (z : Int), j ≤ 0 ∧ i = .int .i64 j ∧ t = .int .i64 z ∧ 0 ≤ z ∧ z ≤ 2097152) (fun _ i => 0 - (intOf i).toNat)
    case atStart => exact ⟨0, _, Nat.zero_le _, rfl, rfl, by omega, by omega⟩
    case round =>
      obtain ⟨j, z, hj, rfl, rfl, hzA, hzB⟩ := hrel
      by_cases hlt : j < 0
      · exact absurd hlt (Nat.not_lt_zero j)
      obtain rfl : 0 = j := by omega
      clear hlt hj
      go_wp2
      go_ret
      exact ⟨rfl, hB1⟩

theorem union_out (few : Nat → ByteArray) (nn : Int) (a : Option Addr) (cap n : Nat) (ss : Nat → ByteArray) (a2 : Option Addr) (cap2 n2 : Nat) (bs : Nat → Bool) (mnil : Bool) (k : ByteArray) (hks : k.size ≤ maxLen) (hfs : ∀ i, i < 16 → (few i).size ≤ maxLen) (hss : ∀ i, i < n → (ss i).size ≤ maxLen) (w : World) (hm : n ≤ maxLen) (hm2 : n2 ≤ maxLen) (hs : StrsAt w a n ss) (hs2 : BoolsAt w a2 n2 bs) (hsm : n ≤ 4096) (hsm2 : n2 ≤ 4096) (hkm : k.size ≤ 1048576) (hz : n = 0) (hr : nn < 0 ∨ 16 < nn) :
    Calls Try.prog 4 #[.agg #[.string (few 0), .string (few 1), .string (few 2), .string (few 3), .string (few 4), .string (few 5), .string (few 6), .string (few 7), .string (few 8), .string (few 9), .string (few 10), .string (few 11), .string (few 12), .string (few 13), .string (few 14), .string (few 15)], .int .i64 nn, .slice a n cap, .slice a2 n2 cap2, .bool mnil, .string k] w fun e w' => e = .returned (.bool true) ∧ Below w.heap.size w w' := by
  by_cases h : nn < 0
  · exact union_outA few nn a cap n ss a2 cap2 n2 bs mnil k hks hfs hss w hm hm2 hs hs2 hsm hsm2 hkm hz h
  · exact union_outB few nn a cap n ss a2 cap2 n2 bs mnil k hks hfs hss w hm hm2 hs hs2 hsm hsm2 hkm hz h (by omega)

end Go.Proofs.Qxb6602130a
