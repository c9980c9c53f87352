/-
  Seat b6602130a: the walk of FnKeySetAddFromAnyStateHoldsTheUnion (function 4): the early ways out.
-/
import Derived.Test.Qxb6602130aStepB
import Derived.Deep.RegionHeld3
namespace Go.Proofs.Qxb6602130a
open Go.RowKit
set_option linter.unusedVariables false

theorem mkMap (n : Int) (w : World) : (Instr.makeMap 30 (some (.int .i64 n))).run Try.prog w = .ok (.map (some w.heap.size)) (w.alloc (.map #[] 0)) := by
  simp [Instr.makeMap, run_underlying Try.underlying30, asInt, asIntOf, go_sem]

/-- The strings of a slice lie in no map's block and not in the keySet's. -/
theorem before_kept {w w' : World} {g n sb : Nat} {ss : Nat → ByteArray} {m : Option Nat} {L : List ByteArray} {tr : Bool} (h : StrsAt w (some ⟨g, 0, none⟩) n ss) (hmap : MapIs w m L tr) (hg : g ≠ sb) (hk : Kept (fun i => i = sb ∨ some i = m) w w') : StrsAt w' (some ⟨g, 0, none⟩) n ss := by
  rcases h with h | ⟨b, off, e, hb, hc⟩
  · exact .inl h
  · cases e
    rcases Nat.eq_zero_or_pos n with h0 | h0
    · exact .inl h0
    refine .inr ⟨g, 0, rfl, Nat.lt_of_lt_of_le hb hk.size, fun i hi => (hk.cell (a := ⟨g, 0 + i, none⟩) hb ?_).trans (hc i hi)⟩
    rintro (e | e)
    · exact hg e
    · rcases hmap with ⟨e', _⟩ | ⟨b', D, e', ⟨es, clock, hh, _⟩, _⟩
      · rw [e'] at e; cases e
      · rw [e'] at e
        cases e
        have := hc 0 h0
        simp [World.cell?, hh] at this

theorem dist_few (few2 : Nat → ByteArray) (nn2 : Nat) (hnn : nn2 ≤ 16) (dl : List ByteArray) (hd : dist (firsts few2 nn2) = dl) (w : World) :
    Calls Try.prog 15 #[.slice (some ⟨w.heap.size, 0, none⟩) nn2 16] (w.alloc (.cells #[.string (few2 0), .string (few2 1), .string (few2 2), .string (few2 3), .string (few2 4), .string (few2 5), .string (few2 6), .string (few2 7), .string (few2 8), .string (few2 9), .string (few2 10), .string (few2 11), .string (few2 12), .string (few2 13), .string (few2 14), .string (few2 15)] 25)) fun e w' => DistPost (w.alloc (.cells #[.string (few2 0), .string (few2 1), .string (few2 2), .string (few2 3), .string (few2 4), .string (few2 5), .string (few2 6), .string (few2 7), .string (few2 8), .string (few2 9), .string (few2 10), .string (few2 11), .string (few2 12), .string (few2 13), .string (few2 14), .string (few2 15)] 25)) dl e w' := by
  have := distinct_any (some ⟨w.heap.size, 0, none⟩) 16 nn2 few2 (w.alloc (.cells #[.string (few2 0), .string (few2 1), .string (few2 2), .string (few2 3), .string (few2 4), .string (few2 5), .string (few2 6), .string (few2 7), .string (few2 8), .string (few2 9), .string (few2 10), .string (few2 11), .string (few2 12), .string (few2 13), .string (few2 14), .string (few2 15)] 25)) (by omega) (.inr ⟨w.heap.size, 0, rfl, by simp, fun i hi => by
    have h := (World.rowIs_alloc w (few16 few2) 25 (fun i => .string (few2 i)) (fun i hi => few16_at few2 i hi)).cell (i := i) (by show i < 16; omega)
    rw [Nat.zero_add]
    exact h⟩)
  rw [hd] at this
  exact this

theorem range_few {w : World} {b : Nat} {few2 : Nat → ByteArray} (h : w.heap[b]? = some (.cells #[.string (few2 0), .string (few2 1), .string (few2 2), .string (few2 3), .string (few2 4), .string (few2 5), .string (few2 6), .string (few2 7), .string (few2 8), .string (few2 9), .string (few2 10), .string (few2 11), .string (few2 12), .string (few2 13), .string (few2 14), .string (few2 15)] 25 (0, 0))) : w.rangeAt b 0 [.string (few2 0), .string (few2 1), .string (few2 2), .string (few2 3), .string (few2 4), .string (few2 5), .string (few2 6), .string (few2 7), .string (few2 8), .string (few2 9), .string (few2 10), .string (few2 11), .string (few2 12), .string (few2 13), .string (few2 14), .string (few2 15)] := fun j v hv => by
  rw [Nat.zero_add, cell_of_row w b j _ _ _ h]
  simpa using hv
theorem range_below {w w' : World} {b : Nat} {cs : List Value} (h : w.rangeAt b 0 cs) (hb : Below w.heap.size w w') : w'.rangeAt b 0 cs := fun j v hv => by
  have := h j v hv
  exact (hb.cell (p := ⟨b, 0 + j, none⟩) (World.block_lt_of_cell? w _ this)).trans this

theorem before_kept2 {w0 w w' : World} {g n sb : Nat} {ss : Nat → ByteArray} {m : Option Nat} {L : List ByteArray} {tr : Bool} (h : StrsAt w0 (some ⟨g, 0, none⟩) n ss) (hb : Below w0.heap.size w0 w) (hmap : MapIs w m L tr) (hsb : w0.heap.size ≤ sb) (hk : Kept (fun i => i = sb ∨ some i = m) w w') : StrsAt w' (some ⟨g, 0, none⟩) n ss := by
  rcases Nat.eq_zero_or_pos n with h0 | h0
  · exact .inl h0
  have hlt : g < w0.heap.size := by
    rcases h with h | ⟨b, off, e, hb, hc⟩
    · omega
    · cases e; exact hb
  exact before_kept (h.below hb (Nat.le_refl _)) hmap (by omega) hk

theorem heap_kept {w w' : World} {B b : Nat} {o : Obj} (h : w.heap[b]? = some o) (hb : Below B w w') (hB : b < B) : w'.heap[b]? = some o := (hb.block b hB).trans h

set_option maxHeartbeats 1000000 in
set_option maxRecDepth 100000 in
theorem union_early (few : Nat → ByteArray) (nn : Int) (a : Option Addr) (cap n : Nat) (ss : Nat → ByteArray) (a2 : Option Addr) (cap2 n2 : Nat) (bs : Nat → Bool) (mnil : Bool) (k : ByteArray) (hks : k.size ≤ maxLen) (hfs : ∀ i, i < 16 → (few i).size ≤ maxLen) (hss : ∀ i, i < n → (ss i).size ≤ maxLen) (w : World) (hm : n ≤ maxLen) (hm2 : n2 ≤ maxLen) (hs : StrsAt w a n ss) (hs2 : BoolsAt w a2 n2 bs) (hbad : 4096 < n ∨ 4096 < n2 ∨ 1048576 < k.size) :
    Calls Try.prog 4 #[.agg #[.string (few 0), .string (few 1), .string (few 2), .string (few 3), .string (few 4), .string (few 5), .string (few 6), .string (few 7), .string (few 8), .string (few 9), .string (few 10), .string (few 11), .string (few 12), .string (few 13), .string (few 14), .string (few 15)], .int .i64 nn, .slice a n cap, .slice a2 n2 cap2, .bool mnil, .string k] w fun e w' => e = .returned (.bool true) ∧ Below w.heap.size w w' := by
  have hB0 : Below w.heap.size w (w.alloc (.cells #[.string (few 0), .string (few 1), .string (few 2), .string (few 3), .string (few 4), .string (few 5), .string (few 6), .string (few 7), .string (few 8), .string (few 9), .string (few 10), .string (few 11), .string (few 12), .string (few 13), .string (few 14), .string (few 15)] 25)) := (Below.refl _ _).alloc (Nat.le_refl _) _
  have hb1 := bytes2_any few nn a cap n ss a2 cap2 n2 mnil k hks hfs hss (w.alloc (.cells #[.string (few 0), .string (few 1), .string (few 2), .string (few 3), .string (few 4), .string (few 5), .string (few 6), .string (few 7), .string (few 8), .string (few 9), .string (few 10), .string (few 11), .string (few 12), .string (few 13), .string (few 14), .string (few 15)] 25)) hm hm2 (hs.below hB0 (Nat.le_refl _))
  have H1 : Hid (Calls Try.prog 13 #[.agg #[.string (few 0), .string (few 1), .string (few 2), .string (few 3), .string (few 4), .string (few 5), .string (few 6), .string (few 7), .string (few 8), .string (few 9), .string (few 10), .string (few 11), .string (few 12), .string (few 13), .string (few 14), .string (few 15)], .int .i64 nn, .slice a n cap, .slice a2 n2 cap2, .bool mnil, .string k] (w.alloc (.cells #[.string (few 0), .string (few 1), .string (few 2), .string (few 3), .string (few 4), .string (few 5), .string (few 6), .string (few 7), .string (few 8), .string (few 9), .string (few 10), .string (few 11), .string (few 12), .string (few 13), .string (few 14), .string (few 15)] 25)) fun e w' => AnyBool e ∧ Below (w.alloc (.cells #[.string (few 0), .string (few 1), .string (few 2), .string (few 3), .string (few 4), .string (few 5), .string (few 6), .string (few 7), .string (few 8), .string (few 9), .string (few 10), .string (few 11), .string (few 12), .string (few 13), .string (few 14), .string (few 15)] 25)).heap.size (w.alloc (.cells #[.string (few 0), .string (few 1), .string (few 2), .string (few 3), .string (few 4), .string (few 5), .string (few 6), .string (few 7), .string (few 8), .string (few 9), .string (few 10), .string (few 11), .string (few 12), .string (few 13), .string (few 14), .string (few 15)] 25)) w') := hb1
  unfold maxLen at hm hm2 hks
  clear hb1 hs hs2 hfs hss
  by_cases h1 : 4096 < n
  · have e1 : decide ((4096 : Int) < n) = true := by simp; omega
    clear hbad
    go_enter Try.func4, Try.ntmps4
    go_wp2_with (go_at_call 13; refine H1.out.mono ?_; rintro e w1 ⟨⟨r, rfl⟩, hb2⟩; cases r)
    all_goals (go_ret; exact ⟨rfl, hB0.trans (hb2.mono (by simp))⟩)
  have e1 : decide ((4096 : Int) < n) = false := by simp; omega
  by_cases h2 : 4096 < n2
  · have e2 : decide ((4096 : Int) < n2) = true := by simp; omega
    clear hbad
    go_enter Try.func4, Try.ntmps4
    go_wp2_with (go_at_call 13; refine H1.out.mono ?_; rintro e w1 ⟨⟨r, rfl⟩, hb2⟩; cases r)
    all_goals (go_ret; exact ⟨rfl, hB0.trans (hb2.mono (by simp))⟩)
  have e2 : decide ((4096 : Int) < n2) = false := by simp; omega
  have h3 : 1048576 < k.size := by omega
  have e3 : decide ((1048576 : Int) < k.size) = true := by simp; omega
  clear hbad
  go_enter Try.func4, Try.ntmps4
  go_wp2_with (go_at_call 13; refine H1.out.mono ?_; rintro e w1 ⟨⟨r, rfl⟩, hb2⟩; cases r)
  all_goals (go_ret; exact ⟨rfl, hB0.trans (hb2.mono (by simp))⟩)

end Go.Proofs.Qxb6602130a
