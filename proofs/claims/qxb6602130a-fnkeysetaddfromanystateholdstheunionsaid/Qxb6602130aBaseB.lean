/-
  Seat b6602130a: contracts of the second law's callees: 13 zzBytes, 14 cloneBools, 15 distinct, 16 heldAfter; add's fifth case.
-/
import Derived.Test.Qxb6602130aStep
namespace Go.Proofs.Qxb6602130a
open Go.RowKit

/-- A slice of n bools at address a, in w. -/
def BoolsAt (w : World) (a : Option Addr) (n : Nat) (bs : Nat → Bool) : Prop :=
  n = 0 ∨ ∃ b off, a = some ⟨b, off, none⟩ ∧ b < w.heap.size ∧ ∀ i, i < n → w.cell? ⟨b, off + i, none⟩ = some (.bool (bs i))
theorem BoolsAt.below {w w' : World} {B : Nat} {a : Option Addr} {n : Nat} {bs : Nat → Bool} (h : BoolsAt w a n bs) (hb : Below B w w') (hB : w.heap.size ≤ B) : BoolsAt w' a n bs := by
  rcases h with h | ⟨b, off, h1, h2, h3⟩
  · exact .inl h
  · exact .inr ⟨b, off, h1, Nat.lt_of_lt_of_le h2 hb.size, fun i hi => (hb.cell (p := ⟨b, off + i, none⟩) (by show b < B; omega)).trans (h3 i hi)⟩

theorem q34 (w : World) (a : Option Addr) (n c n' c' : Nat) : (binOp .eql 34 (.slice a n c) (.slice none n' c')).run Try.prog w = .ok (.bool a.isNone) w := Lib.run_eql_slice_nil w _ _ a n c n' c' Try.underlying34
theorem Try.info4 : (Try.prog.info? 4).map (fun i => (i.zero, i.size, i.bytes)) = some (some (.bool false), 1, 1) := by kernel_rfl

/-- zzCloneBoolsYdB1. -/
theorem cloneBools_any (a : Option Addr) (cap n : Nat) (ss : Nat → Bool) (w : World) (hm : n ≤ 1048576) (hs : BoolsAt w a n ss) :
    Calls Try.prog 14 #[.slice a n cap] w fun e w' => ∃ a' cap', e = .returned (.slice a' n cap') ∧ BoolsAt w' a' n ss ∧ Below w.heap.size w w' := by
  have hmk := run_make_row' (P := Try.prog) 34 4 (.bool false) 1 Try.underlying34 Try.info4 rfl .i64 .i64 n (by omega) (by omega)
  have hq := q34
  rcases Nat.eq_zero_or_pos n with rfl | hpos
  · clear hs
    have hmk0 : ∀ w : World, (Instr.makeSlice 34 (.int .i64 0) (.int .i64 0)).run Try.prog w = .ok (.slice (some ⟨w.heap.size, 0, none⟩) 0 0) (w.alloc (.cells (madeCells #[.bool false] 0) 4)) := fun w => by simpa using hmk w
    clear hmk
    cases a with
    | none =>
      go_enter Try.func14, Try.ntmps14
      go_wp2
      go_ret
      exact ⟨none, 0, rfl, .inl rfl, Below.refl _ _⟩
    | some a =>
      go_enter Try.func14, Try.ntmps14
      go_wp2
      refine wp_loop_rounds 1 ?_
      rw [rounds_succ]
      go_wp2
      go_ret
      exact ⟨_, _, rfl, .inl rfl, (Below.refl _ _).alloc (Nat.le_refl _) _⟩
  · rcases hs with rfl | ⟨b, off, rfl, hb, hc⟩
    · omega
    go_enter Try.func14, Try.ntmps14
    go_wp2
    go_loopw [4] (fun i wr => ∃ j : Nat, j ≤ n ∧ i = .int .i64 j ∧ wr.rowIs w.heap.size 4 n (fun i => if i < j then .bool (ss i) else .bool false) ∧ Below w.heap.size w wr) (fun i _ => n - (intOf i).toNat)
    case atStart => exact ⟨0, Nat.zero_le _, rfl, (World.rowIs_made w _ n 4).congr (fun i _ => by simp), (Below.refl _ _).alloc (Nat.le_refl _) _⟩
    case round =>
      obtain ⟨j, hj, rfl, hrow, hbel⟩ := hrel
      have hcell : j < n → wr.cell? ⟨b, off + j, none⟩ = some (.bool (ss j)) := fun h => (hbel.cell (p := ⟨b, off + j, none⟩) hb).trans (hc j h)
      have hfr := hrow.frozen j
      have hlt0 := hrow.lt
      have hown : j < n → wr.cell? ⟨w.heap.size, j, none⟩ = some (.bool false) := fun h => (hrow.cell h).trans (by simp)
      clear hc
      go_wp2
      · go_roundw
        case rel => exact ⟨j + 1, by omega, by go_num, (hrow.set j (.bool (ss j))).congr (fun i _ => by
          by_cases e : i = j
          · subst e; simp
          · have : (i < j + 1) = (i < j) := by simp; omega
            simp [e, this]), hbel.setCell (Nat.le_refl _) _⟩
        case measure => simp [intOf]; omega
      · obtain rfl : j = n := by omega
        go_ret
        exact ⟨_, _, rfl, .inr ⟨w.heap.size, 0, rfl, hrow.lt, fun i hi => by rw [Nat.zero_add, hrow.cell hi]; simp [hi]⟩, hbel⟩

/-- make([]string, 0, n). -/
theorem mk22 (n : Nat) (h : n ≤ 1048576) (w : World) : (Instr.makeSlice 22 (.int .i64 0) (.int .i64 (n : Int))).run Try.prog w = .ok (.slice (some ⟨w.heap.size, 0, none⟩) 0 n) (w.alloc (.cells (madeCells #[.string ⟨#[]⟩] n) 9)) := by
  obtain ⟨i, hi, hz⟩ := Option.map_eq_some_iff.1 Try.info9
  simp only [Prod.mk.injEq] at hz
  obtain ⟨h1, h2, h3⟩ := hz
  have := run_make (P := Try.prog) w 22 9 i _ Try.underlying22 hi h1 .i64 .i64 0 n (by omega) (by omega) (by rw [h3]; omega) (by omega)
  rw [this, h2]
  simp [Value.cells]

/-- A slice of just the strings of dl is returned; nothing that was there has turned. -/
def DistPost (w : World) (dl : List ByteArray) (e : Ending) (w' : World) : Prop :=
  ∃ g cap', e = .returned (.slice (some ⟨g, 0, none⟩) dl.length cap') ∧ StrsAt w' (some ⟨g, 0, none⟩) dl.length (fun i => dl.getD i ByteArray.empty) ∧ Below w.heap.size w w'

/-- zzDistinctYdB1. -/
theorem distinct_any (a : Option Addr) (cap n : Nat) (ss : Nat → ByteArray) (w : World) (hm : n ≤ 4096) (hs : StrsAt w a n ss) :
    Calls Try.prog 15 #[.slice a n cap] w fun e w' => DistPost w (dist (firsts ss n)) e w' := by
  have hmk := mk22 n (by omega)
  obtain ⟨i0, hi, hz0, hz1, hz2⟩ := info_parts Try.info9
  rcases Nat.eq_zero_or_pos n with rfl | hpos
  · clear hs
    have hmk0 : ∀ w : World, (Instr.makeSlice 22 (.int .i64 0) (.int .i64 0)).run Try.prog w = .ok (.slice (some ⟨w.heap.size, 0, none⟩) 0 0) (w.alloc (.cells (madeCells #[.string ⟨#[]⟩] 0) 9)) := fun w => by simpa using hmk w
    clear hmk
    go_enter Try.func15, Try.ntmps15
    go_wp2
    refine wp_loop_rounds 1 ?_
    rw [rounds_succ]
    go_wp2
    go_ret
    exact ⟨w.heap.size, 0, rfl, .inl rfl, (Below.refl _ _).alloc (Nat.le_refl _) _⟩
  rcases hs with rfl | ⟨b, off, rfl, hb, hc⟩
  · omega
  go_enter Try.func15, Try.ntmps15
  go_wp2
  go_loopw [3, 4] (fun v i wr => ∃ (j : Nat) (dl : List ByteArray), j ≤ n ∧ i = .int .i64 j ∧ dl = dist (firsts ss j) ∧ v = .slice (some ⟨w.heap.size, 0, none⟩) dl.length n ∧
      wr.ownsRow w.heap.size 9 1 (.slice (some ⟨w.heap.size, 0, none⟩) dl.length n) dl.length (dl.map Value.string) ∧ w.heap.size ≤ wr.heap.size ∧ Below w.heap.size w wr) (fun _ i _ => n - (intOf i).toNat)
  case atStart =>
    exact ⟨0, [], Nat.zero_le _, rfl, rfl, rfl, World.ownsRow_made w _ n (Nat.le_refl _) (by unfold maxLen; omega) (by simp [size_madeCells]), by simp, (Below.refl _ _).alloc (Nat.le_refl _) _⟩
  case round =>
    obtain ⟨j, dl, hj, rfl, hdl, rfl, hown, hsz2, hbw⟩ := hrel
    have hdlen : dl.length ≤ j := by rw [hdl]; exact Nat.le_trans (length_dist _) (by rw [length_firsts]; exact Nat.le_refl _)
    have HD : Hid (dl = dist (firsts ss j)) := hdl
    clear hdl
    by_cases hlt : j < n
    · have hcj : wr.cell? ⟨b, off + j, none⟩ = some (.string (ss j)) := (hbw.cell (p := ⟨b, off + j, none⟩) hb).trans (hc j hlt)
      clear hc
      by_cases hmem : ss j ∈ dl
      · go_wp2_with (go_at_call 10; refine (indexOf_yes (some ⟨w.heap.size, 0, none⟩) n dl.length _ (ss j) wr (by omega) (strs_of_own hown rfl) (mem_getD hmem)).mono ?_; rintro e w3 ⟨r, rfl, hr, hw⟩; obtain rfl := hw.symm)
        go_roundw
        case rel => exact ⟨j + 1, dl, by omega, by go_num, by rw [dist_firsts_succ, ← HD.out, add1_old hmem], rfl, hown, hsz2, hbw⟩
        case measure => simp [intOf]; omega
      · go_wp2_with (first
          | (at_builtin; refine wpList_append_own_spare _ rfl _ _ 22 rfl w.heap.size 9 i0 1 Try.underlying22 hi hz1 w.heap.size dl.length n (dl.map Value.string) rfl (hown.alloc _) ⟨wr.heap.size, 0, none⟩ 1 1 [.string (ss j)] rfl rfl (cell_one_new _ _ _) (by simp [Value.oneCell']) (by omega) ?_; intro w5 hown5 hgrow5)
          | (go_at_call 10; refine (indexOf_no (some ⟨w.heap.size, 0, none⟩) n dl.length _ (ss j) wr (by omega) (strs_of_own hown rfl) (fun q hq e => hmem (e ▸ getD_mem hq))).mono ?_; rintro e w3 ⟨rfl, hw⟩; obtain rfl := hw.symm))
        go_roundw
        case rel =>
          have hkp5 : Kept (fun i => i = w.heap.size) wr w5 := ((Kept.refl (fun i => i = w.heap.size) wr).alloc _).grown hgrow5 (fun i _ e => by simpa using e)
          refine ⟨j + 1, dl ++ [ss j], by omega, by go_num, by rw [dist_firsts_succ, ← HD.out, add1_new hmem], by simp, by simpa using hown5, Nat.le_trans hsz2 hkp5.size, hbw.trans (hkp5.below (fun i h => by omega) hsz2)⟩
        case measure => simp [intOf]; omega
    · obtain rfl : n = j := by omega
      have hdd := HD.out
      subst hdd
      clear hlt hj hc
      go_wp2
      go_ret
      exact ⟨w.heap.size, n, rfl, strs_of_own hown rfl, hbw⟩

/-- Some bool is returned. -/
def AnyBool (e : Ending) : Prop := ∃ r : Bool, e = .returned (.bool r)

set_option maxHeartbeats 1000000 in
/-- zzBytes_FnKeySetAddFromAnyStateHoldsTheUnion: it answers, and writes nothing that was there. -/
theorem bytes2_any (few : Nat → ByteArray) (nn : Int) (a : Option Addr) (cap n : Nat) (ss : Nat → ByteArray) (a2 : Option Addr) (cap2 n2 : Nat) (b : Bool) (k : ByteArray) (hks : k.size ≤ maxLen) (hfs : ∀ i, i < 16 → (few i).size ≤ maxLen) (hss : ∀ i, i < n → (ss i).size ≤ maxLen) (w : World) (hm : n ≤ maxLen) (hm2 : n2 ≤ maxLen) (hs : StrsAt w a n ss) :
    Calls Try.prog 13 #[.agg #[.string (few 0), .string (few 1), .string (few 2), .string (few 3), .string (few 4), .string (few 5), .string (few 6), .string (few 7), .string (few 8), .string (few 9), .string (few 10), .string (few 11), .string (few 12), .string (few 13), .string (few 14), .string (few 15)], .int .i64 nn, .slice a n cap, .slice a2 n2 cap2, .bool b, .string k] w fun e w' => AnyBool e ∧ Below w.heap.size w w' := by
  unfold maxLen at hm hm2 hks
  have hrow := World.rowIs_alloc w (few16 few) 25 (fun i => .string (few i)) (fun i hi => few16_at few i hi)
  have hcell : ∀ i, i < 16 → (w.alloc (.cells #[.string (few 0), .string (few 1), .string (few 2), .string (few 3), .string (few 4), .string (few 5), .string (few 6), .string (few 7), .string (few 8), .string (few 9), .string (few 10), .string (few 11), .string (few 12), .string (few 13), .string (few 14), .string (few 15)] 25)).cell? ⟨w.heap.size, i, none⟩ = some (.string (few i)) := fun i hi => hrow.cell hi
  have hB : Below w.heap.size w (w.alloc (.cells #[.string (few 0), .string (few 1), .string (few 2), .string (few 3), .string (few 4), .string (few 5), .string (few 6), .string (few 7), .string (few 8), .string (few 9), .string (few 10), .string (few 11), .string (few 12), .string (few 13), .string (few 14), .string (few 15)] 25)) := (Below.refl _ _).alloc (Nat.le_refl _) _
  clear hrow
  go_enter Try.func13, Try.ntmps13
  go_wp2
  go_loop [13, 14] (fun t i => ∃ (j : Nat) (z : Int), j ≤ 16 ∧ i = .int .i64 j ∧ t = .int .i64 z ∧ 0 ≤ z ∧ z ≤ 1048576) (fun _ i => 16 - (intOf i).toNat)
  case atStart => exact ⟨0, 0, Nat.zero_le _, rfl, rfl, by omega, by omega⟩
  case round =>
    obtain ⟨j, z, hj, rfl, rfl, hz0, hz1⟩ := hrel
    by_cases hlt : j < 16
    · have hcj := hcell j hlt
      have hsj := hfs j hlt
      unfold maxLen at hsj
      clear hcell hfs hss
      go_wp2
      · go_ret; exact ⟨⟨_, rfl⟩, hB⟩
      · go_ret; exact ⟨⟨_, rfl⟩, hB⟩
      · go_round
        case rel => exact ⟨j + 1, _, by omega, by go_num, rfl, by omega, by omega⟩
        case measure => simp [intOf]; omega
    · obtain rfl : j = 16 := by omega
      clear hcell hfs
      have hs2 : StrsAt (w.alloc (.cells #[.string (few 0), .string (few 1), .string (few 2), .string (few 3), .string (few 4), .string (few 5), .string (few 6), .string (few 7), .string (few 8), .string (few 9), .string (few 10), .string (few 11), .string (few 12), .string (few 13), .string (few 14), .string (few 15)] 25)) a n ss := hs.below hB (Nat.le_refl _)
      clear hs
      go_wp2
      · go_ret; exact ⟨⟨_, rfl⟩, hB⟩
      · go_ret; exact ⟨⟨_, rfl⟩, hB⟩
      go_loop [13, 15] (fun t i => ∃ (j : Nat) (z : Int), j ≤ n ∧ i = .int .i64 j ∧ t = .int .i64 z ∧ 0 ≤ z ∧ z ≤ 1048576) (fun _ i => n - (intOf i).toNat)
      case atStart => exact ⟨0, _, Nat.zero_le _, rfl, rfl, by omega, by omega⟩
      case round =>
        obtain ⟨j, z, hj, rfl, rfl, hzA, hzB⟩ := hrel
        by_cases hlt : j < n
        · rcases hs2 with h0 | ⟨b, off, rfl, hb, hc⟩
          · omega
          have hcj := hc j hlt
          have hsj := hss j hlt
          unfold maxLen at hsj
          clear hc hss
          go_wp2
          · go_ret; exact ⟨⟨_, rfl⟩, hB⟩
          · go_ret; exact ⟨⟨_, rfl⟩, hB⟩
          · go_round
            case rel => exact ⟨j + 1, _, by omega, by go_num, rfl, by omega, by omega⟩
            case measure => simp [intOf]; omega
        · obtain rfl : j = n := by omega
          clear hss hs2
          go_wp2
          all_goals (go_ret; exact ⟨⟨_, rfl⟩, hB⟩)
end Go.Proofs.Qxb6602130a
