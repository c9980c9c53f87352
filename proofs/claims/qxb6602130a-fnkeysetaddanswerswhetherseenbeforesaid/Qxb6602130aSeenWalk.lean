/-
  Seat b6602130a: the walk of FnKeySetAddAnswersWhetherSeenBefore (function 3).
-/
import Derived.Test.Qxb6602130aStep
namespace Go.Proofs.Qxb6602130a
open Go.RowKit

/-- make([]string, 0, n). -/
theorem mk22 (n : Nat) (h : n ≤ 1048576) (w : World) : (Instr.makeSlice 22 (.int .i64 0) (.int .i64 (n : Int))).run Try.prog w = .ok (.slice (some ⟨w.heap.size, 0, none⟩) 0 n) (w.alloc (.cells (madeCells #[.string ⟨#[]⟩] n) 9)) := by
  obtain ⟨i, hi, hz⟩ := Option.map_eq_some_iff.1 Try.info9
  simp only [Prod.mk.injEq] at hz
  obtain ⟨h1, h2, h3⟩ := hz
  have := run_make (P := Try.prog) w 22 9 i _ Try.underlying22 hi h1 .i64 .i64 0 n (by omega) (by omega) (by rw [h3]; omega) (by omega)
  rw [this, h2]
  simp [Value.cells]

/-- The law's own keySet: empty. -/
theorem newKeySet_zero (w : World) :
    Calls Try.prog 9 #[.agg #[.string ⟨#[]⟩, .string ⟨#[]⟩, .string ⟨#[]⟩, .string ⟨#[]⟩, .string ⟨#[]⟩, .string ⟨#[]⟩, .string ⟨#[]⟩, .string ⟨#[]⟩, .string ⟨#[]⟩, .string ⟨#[]⟩, .string ⟨#[]⟩, .string ⟨#[]⟩, .string ⟨#[]⟩, .string ⟨#[]⟩, .string ⟨#[]⟩, .string ⟨#[]⟩], .int .i64 0, .map none]
      (w.alloc (.cells #[.string ⟨#[]⟩, .string ⟨#[]⟩, .string ⟨#[]⟩, .string ⟨#[]⟩, .string ⟨#[]⟩, .string ⟨#[]⟩, .string ⟨#[]⟩, .string ⟨#[]⟩, .string ⟨#[]⟩, .string ⟨#[]⟩, .string ⟨#[]⟩, .string ⟨#[]⟩, .string ⟨#[]⟩, .string ⟨#[]⟩, .string ⟨#[]⟩, .string ⟨#[]⟩] 25))
      fun e w' => ∃ sb, e = .returned (.pointer (some ⟨sb, 0, none⟩)) ∧ w.heap.size ≤ sb ∧ sb < w'.heap.size ∧ (∀ base, KSt w' sb [] base) ∧ Below w.heap.size w w' := by
  refine (newKeySet_any _ rfl (fun _ => ByteArray.empty) (fun i hi => ?_) 0 none _).mono ?_
  · have hcase : i = 0 ∨ i = 1 ∨ i = 2 ∨ i = 3 ∨ i = 4 ∨ i = 5 ∨ i = 6 ∨ i = 7 ∨ i = 8 ∨ i = 9 ∨ i = 10 ∨ i = 11 ∨ i = 12 ∨ i = 13 ∨ i = 14 ∨ i = 15 := by omega
    rcases hcase with rfl | rfl | rfl | rfl | rfl | rfl | rfl | rfl | rfl | rfl | rfl | rfl | rfl | rfl | rfl | rfl <;> rfl
  · rintro e w' ⟨rfl, hrow, hsz, hb⟩
    refine ⟨_, rfl, by simp; omega, by rw [hsz]; omega, fun base => ⟨none, hrow.congr (kc_congr (fun i _ => rfl) rfl), .inl ⟨by simp, rfl⟩⟩, ?_⟩
    exact ((Below.refl _ _).alloc (Nat.le_refl _) _).trans (hb.mono (by simp))

theorem cell_behind {w w' : World} (h : Below w.heap.size w w') (o : Obj) (b i : Nat) (hb : b < w.heap.size) : (w'.alloc o).cell? ⟨b, i, none⟩ = w.cell? ⟨b, i, none⟩ :=
  ((h.alloc h.size o).cell (p := ⟨b, i, none⟩) hb)

theorem zero4 (w : World) : (zeroValue 4).run Try.prog w = .ok (.bool false) w := by kernel_rfl

theorem plainElem_true {v : Value} {ps : List MemPlace} (h : plainElem (H := Unit) Try.prog 4 v = some (.lit (.bool true), ps)) : v = .bool true := by
  unfold plainElem at h
  rw [Try.underlying4] at h
  cases v <;> simp at h
  rw [h.1]

section
variable (w : World) {ops : Array Oper} {rest : List Oper} {o : Oper} {a : Act} {Q : Exit → Act → World → Prop}
/-- 'v, ok := m[k]' at a key that is there, all elements true. -/
theorem wpList_lookup_true (hg : o.guard = none) (m x : Operand) (hop : o.op = Op.lookup 30 m x true) (b : Nat) (L : List ByteArray)
    (hm : a.eval m = .map (some b)) (hmap : MapIs w (some b) L true) (s : ByteArray) (hx : a.eval x = .string s) (hs : s ∈ L) (hsz : s.size ≤ maxLen)
    (hK : wpList Try.prog ops Q rest (a.put o.dst (.tuple #[.bool true, .bool true])) w) : wpList Try.prog ops Q (o :: rest) a w := by
  rcases hmap with ⟨e, _⟩ | ⟨b', D, e, ho, hh, ht⟩
  · cases e
  · cases e
    have hhas : Maps.has D (key s) = true := by rw [hh.has]; exact memB_iff.2 hs
    refine wpList_lookup_own_ok w hg m x 30 hop 9 4 law9 Try.underlying30 (plainElem (H := Unit) Try.prog 4) (zero4 w) (.lit (.bool false)) [] (plainElem_bool Try.underlying4 false) b _ D hm ho _ _ hx (key_of hsz) (fun v ps hv => ?_)
    rw [ht rfl s hhas] at hv
    rw [plainElem_true hv, hhas]
    exact hK
end

set_option maxHeartbeats 4000000 in
set_option maxRecDepth 100000 in
theorem seen_walk (a : Option Addr) (cap n : Nat) (ss : Nat → ByteArray) (w : World) (hm : n ≤ maxLen) (hs : StrsAt w a n ss) (hsz : ∀ i, i < n → (ss i).size ≤ maxLen) :
    Calls Try.prog 3 #[.slice a n cap] w fun e w' => e = .returned (.bool true) ∧ Below w.heap.size w w' := by
  have hb1 := bytes1_any a cap n ss w hm hs
  unfold maxLen at hm
  by_cases hbig : 4096 < n
  · go_enter Try.func3, Try.ntmps3
    go_wp2_with (go_at_call 7; refine hb1.mono ?_; rintro e w1 ⟨r, rfl, hw⟩; obtain rfl := hw.symm; cases r)
    all_goals (go_ret; exact ⟨rfl, Below.refl _ _⟩)
  have hsm : n ≤ 4096 := by omega
  have h4096 : decide ((4096 : Int) < n) = false := by simp; omega
  obtain ⟨i0, hi, hz0, hz1, hz2⟩ := info_parts Try.info9
  have hmk := mk22 n (by omega)
  clear hbig hm
  go_enter Try.func3, Try.ntmps3
  go_wp2_with (go_at_call 7; refine hb1.mono ?_; rintro e w1 ⟨r, rfl, hw⟩; obtain rfl := hw.symm; cases r)
  · go_ret; exact ⟨rfl, Below.refl _ _⟩
  clear hb1
  go_loop [3, 4] (fun t i => ∃ (j : Nat) (z : Int), j ≤ n ∧ i = .int .i64 j ∧ t = .int .i64 z ∧ 0 ≤ z ∧ z ≤ 1048576) (fun _ i => n - (intOf i).toNat)
  case atStart => exact ⟨0, _, Nat.zero_le _, rfl, rfl, by omega, by omega⟩
  case round =>
    obtain ⟨j, z, hj, rfl, rfl, hzA, hzB⟩ := hrel
    by_cases hlt : j < n
    · rcases hs with h0 | ⟨b, off, rfl, hb, hc⟩
      · omega
      have hcj := hc j hlt
      clear hc
      go_wp2
      · go_ret; exact ⟨rfl, Below.refl _ _⟩
      · go_ret; exact ⟨rfl, Below.refl _ _⟩
      · go_round
        case rel => exact ⟨j + 1, _, by omega, by go_num, rfl, by omega, by omega⟩
        case measure => simp [intOf]; omega
    obtain rfl : n = j := by omega
    clear hlt hj
    go_wp2_with (first
      | (go_at_call 8; refine (clone_any a cap n ss _ (by omega) hs).mono ?_; rintro e w1 ⟨a1, cap1, rfl, hs1, hbel1⟩)
      | (go_at_call 9; refine (newKeySet_zero w1).mono ?_; rintro e w2 ⟨sb, rfl, hsb1, hsb2, hks0, hbel2⟩))
    have hw12 := hbel1.size
    clear hs
    go_loopw [7, 8] (fun v i wr => ∃ (j : Nat) (dl : List ByteArray), j ≤ n ∧ i = .int .i64 j ∧ dl = dist (firsts ss j) ∧ v = .slice (some ⟨w2.heap.size, 0, none⟩) dl.length n ∧
        wr.ownsRow w2.heap.size 9 1 (.slice (some ⟨w2.heap.size, 0, none⟩) dl.length n) dl.length (dl.map Value.string) ∧ KSt wr sb dl (w2.heap.size + 1) ∧ w2.heap.size + 1 ≤ wr.heap.size ∧ Below w1.heap.size w1 wr) (fun _ i _ => n - (intOf i).toNat)
    case atStart =>
      refine ⟨0, [], Nat.zero_le _, rfl, rfl, rfl, ?_, ?_, by simp, hbel2.alloc hbel2.size _⟩
      · exact World.ownsRow_made w2 _ n (Nat.le_refl _) (by unfold maxLen; omega) (by simp [size_madeCells])
      · exact (hks0 _).kept ((Kept.refl (fun _ => False) w2).alloc _) (fun h => h) (fun _ _ h => h)
    case round =>
      obtain ⟨j, dl, hj, rfl, hdl, rfl, hown, hks, hsz2, hbw⟩ := hrel
      have hdn : dl.Nodup := by rw [hdl]; exact nodup_dist _
      have hdlen : dl.length ≤ j := by rw [hdl]; exact Nat.le_trans (length_dist _) (by rw [length_firsts]; exact Nat.le_refl _)
      have hds : ∀ s ∈ dl, s.size ≤ maxLen := by
        intro s hs
        rw [hdl, mem_dist, mem_firsts] at hs
        obtain ⟨q, hq, rfl⟩ := hs
        exact hsz q (by omega)
      have HD : Hid (dl = dist (firsts ss j)) := hdl
      clear hdl
      by_cases hlt : j < n
      · rcases hs1 with h0 | ⟨b, off, rfl, hb, hc⟩
        · omega
        have hcj : wr.cell? ⟨b, off + j, none⟩ = some (.string (ss j)) := (hbw.cell (p := ⟨b, off + j, none⟩) hb).trans (hc j hlt)
        clear hc
        by_cases hmem : ss j ∈ dl
        · have hmB := memB_iff.2 hmem
          go_wp2_with (first
            | (go_at_call 10; refine (indexOf_yes (some ⟨w2.heap.size, 0, none⟩) n dl.length _ (ss j) wr (by omega) (strs_of_own hown rfl) (mem_getD hmem)).mono ?_; rintro e w3 ⟨r, rfl, hr, hw⟩; obtain rfl := hw.symm)
            | (go_at_call 11; refine (step_any sb (w2.heap.size + 1) dl hdn (by omega) hds (ss j) (hsz j hlt) wr hsz2 hks).mono ?_; rintro e w4 ⟨rfl, hks4, hkp4⟩))
          go_roundw
          case rel =>
            rw [add1_old hmem] at hks4
            refine ⟨j + 1, dl, by omega, by go_num, ?_, rfl, ?_, hks4, ?_, ?_⟩
            · rw [dist_firsts_succ, ← HD.out, add1_old hmem]
            · exact hkp4.own hown (by omega)
            · exact Nat.le_trans hsz2 hkp4.size
            · exact hbw.trans (hkp4.below (fun i h => by omega) (by omega))
          case measure => simp [intOf]; omega
        · have hmB := memB_not.2 hmem
          have hbS : ¬ (b = sb ∨ w2.heap.size + 1 ≤ b) := by omega
          have hbr : b < wr.heap.size := by omega
          go_wp2_with (first
            | (at_builtin; refine wpList_append_own_spare _ rfl _ _ 22 rfl w2.heap.size 9 i0 1 Try.underlying22 hi hz1 w2.heap.size dl.length n (dl.map Value.string) rfl ((hkp4.own hown (by omega)).alloc _) ⟨w4.heap.size, 0, none⟩ 1 1 [.string (ss j)] rfl rfl (cell_one_new _ _ _) (by simp [Value.oneCell']) (by omega) ?_; intro w5 hown5 hgrow5)
            | (go_at_call 10; refine (indexOf_no (some ⟨w2.heap.size, 0, none⟩) n dl.length _ (ss j) wr (by omega) (strs_of_own hown rfl) (fun q hq e => hmem (e ▸ getD_mem hq))).mono ?_; rintro e w3 ⟨rfl, hw⟩; obtain rfl := hw.symm)
            | (go_at_call 11; refine (step_any sb (w2.heap.size + 1) dl hdn (by omega) hds (ss j) (hsz j hlt) wr hsz2 hks).mono ?_; rintro e w4 ⟨rfl, hks4, hkp4⟩; have hcj4 : w4.cell? ⟨b, off + j, none⟩ = some (.string (ss j)) := (hkp4.cell (a := ⟨b, off + j, none⟩) hbr hbS).trans hcj))
          go_roundw
          case rel =>
            rw [add1_new hmem] at hks4
            have hkp5 : Kept (fun i => i = w2.heap.size) w4 w5 := ((Kept.refl (fun i => i = w2.heap.size) w4).alloc _).grown hgrow5 (fun i _ e => by simpa using e)
            refine ⟨j + 1, dl ++ [ss j], by omega, by go_num, ?_, by simp, ?_, hks4.kept hkp5 (by omega) (fun i h => by omega), ?_, ?_⟩
            · rw [dist_firsts_succ, ← HD.out, add1_new hmem]
            · simpa using hown5
            · exact Nat.le_trans hsz2 (Nat.le_trans hkp4.size hkp5.size)
            · exact (hbw.trans (hkp4.below (fun i h => by omega) (by omega))).trans (hkp5.below (fun i h => by omega) (by have := hkp4.size; omega))
          case measure => simp [intOf]; omega
      · obtain rfl : n = j := by omega
        clear hlt hj
        have Hs1 : Hid (StrsAt w1 a1 n ss) := hs1
        clear hs1
        obtain ⟨m, hrow, hm⟩ := hks
        have hdc := strs_of_own hown rfl
        have hq := q30
        generalize hfe : (fun i => dl.getD i ByteArray.empty) = few at hrow hdc
        have HF : Hid (∀ i, dl.length ≤ i → few i = ⟨#[]⟩) := by
          intro i hi
          rw [← hfe]
          simp only [List.getD, List.getElem?_eq_none hi]
          rfl
        have HM : Hid (∀ i, i < dl.length → few i ∈ dl) := by
          intro i hi
          rw [← hfe]
          exact getD_mem hi
        clear hfe
        have hdc' : ∀ i, i < dl.length → wr.cell? ⟨w2.heap.size, i, none⟩ = some (.string (few i)) := by
          rcases hdc with h | ⟨b, off, e, _, h⟩
          · intro i hi; omega
          · cases e
            intro i hi
            simpa using h i hi
        clear hdc hown
        obtain ⟨wo, rfl⟩ : ∃ wo : World, wo = wr := ⟨_, rfl⟩
        have hw1o := hbw.size
        rcases hm with ⟨h16, rfl⟩ | ⟨h16, mb, rfl, hmb, hmap⟩
        · rw [show min 16 dl.length = dl.length by omega] at hrow
          have hI : (dl.length : Int) ≤ 16 := by omega
          go_wp2_with (go_at_call 12; refine (state_any sb _ _ _ wo hrow).mono ?_; rintro e w4 ⟨rfl, hbel4⟩)
          go_loopw [14] (fun i wx => ∃ (j : Nat), j ≤ 16 ∧ i = .int .i64 j ∧ (∀ i, i < 16 → wx.cell? ⟨w4.heap.size, i, none⟩ = some (.string (few i))) ∧ (∀ i, i < dl.length → wx.cell? ⟨w2.heap.size, i, none⟩ = some (.string (few i))) ∧ Below w1.heap.size w1 wx) (fun i _ => 16 - (intOf i).toNat)
          case atStart =>
            refine ⟨0, by omega, rfl, fun i hi => (World.rowIs_alloc w4 (few16 few) 25 (fun i => .string (few i)) (fun i hi => few16_at few i hi)).cell hi, fun i hi => ?_, (hbw.trans (hbel4.mono hw1o)).alloc (by have := hbel4.size; omega) _⟩
            exact (cell_behind hbel4 _ _ _ (by omega)).trans (hdc' i hi)
          case round =>
            obtain ⟨j, hj, rfl, hcA, hcB, hbx⟩ := hrel
            have HC : Hid ((∀ i, i < 16 → wr.cell? ⟨w4.heap.size, i, none⟩ = some (.string (few i))) ∧ (∀ i, i < dl.length → wr.cell? ⟨w2.heap.size, i, none⟩ = some (.string (few i)))) := ⟨hcA, hcB⟩
            clear hcA hcB
            by_cases hjl : j < 16
            · have hcj := HC.out.1 j hjl
              by_cases hjd : j < dl.length
              · have hcd := HC.out.2 j hjd
                go_wp2
                go_quiet (fail)
                go_wp2
                go_roundw
                case rel => exact ⟨j + 1, by omega, by go_num, HC.out.1, HC.out.2, ⟨hbx.os, hbx.tape, hbx.output, hbx.size, hbx.block⟩⟩
                case measure => simp [intOf]; omega
              · have hfj := HF.out j (by omega)
                go_wp2
                go_roundw
                case rel => exact ⟨j + 1, by omega, by go_num, HC.out.1, HC.out.2, hbx⟩
                case measure => simp [intOf]; omega
            · obtain rfl : j = 16 := by omega
              go_wp2
              go_ret
              exact ⟨rfl, hbel1.trans (hbx.mono hw12)⟩
        · rw [show min 16 dl.length = 16 by omega] at hrow
          have hI : (16 : Int) < (dl.length : Int) := by omega
          go_wp2_with (go_at_call 12; refine (state_any sb _ _ _ wo hrow).mono ?_; rintro e w4 ⟨rfl, hbel4⟩)
          go_loopw [14] (fun i wx => ∃ (j : Nat), j ≤ 16 ∧ i = .int .i64 j ∧ (∀ i, i < 16 → wx.cell? ⟨w4.heap.size, i, none⟩ = some (.string (few i))) ∧ (∀ i, i < dl.length → wx.cell? ⟨w2.heap.size, i, none⟩ = some (.string (few i))) ∧ MapIs wx (some mb) dl true ∧ Below w1.heap.size w1 wx) (fun i _ => 16 - (intOf i).toNat)
          case atStart =>
            refine ⟨0, by omega, rfl, fun i hi => (World.rowIs_alloc w4 (few16 few) 25 (fun i => .string (few i)) (fun i hi => few16_at few i hi)).cell hi, fun i hi => ?_, ?_, (hbw.trans (hbel4.mono hw1o)).alloc (by have := hbel4.size; omega) _⟩
            · exact (cell_behind hbel4 _ _ _ (by omega)).trans (hdc' i hi)
            · refine (hmap.kept (Kept.of_below hbel4) (fun b e h => ?_)).kept ((Kept.refl (fun _ => False) w4).alloc _) (fun _ _ h => h)
              cases e
              rcases hmap with ⟨e, _⟩ | ⟨b', D, e, ho, _⟩
              · cases e
              · cases e
                have := ho.lt
                omega
          case round =>
            obtain ⟨j, hj, rfl, hcA, hcB, hmx, hbx⟩ := hrel
            have HC : Hid ((∀ i, i < 16 → wr.cell? ⟨w4.heap.size, i, none⟩ = some (.string (few i))) ∧ (∀ i, i < dl.length → wr.cell? ⟨w2.heap.size, i, none⟩ = some (.string (few i)))) := ⟨hcA, hcB⟩
            clear hcA hcB
            by_cases hjl : j < 16
            · have hcj := HC.out.1 j hjl
              have hcd := HC.out.2 j (by omega)
              go_wp2
              go_quiet (fail)
              go_wp2
              go_roundw
              case rel => exact ⟨j + 1, by omega, by go_num, HC.out.1, HC.out.2, hmx.kept ((Kept.refl (fun _ => False) wr).drewN _) (fun _ _ h => h), ⟨hbx.os, hbx.tape, hbx.output, hbx.size, hbx.block⟩⟩
              case measure => simp [intOf]; omega
            · obtain rfl : j = 16 := by omega
              have HL := hmx.len
              go_wp2_with (at_len; refine wpList_len_run _ rfl _ 30 rfl _ rfl _ HL ?_)
              go_loop [15] (fun i => ∃ j : Nat, j ≤ dl.length ∧ i = .int .i64 j) (fun i => dl.length - (intOf i).toNat)
              case atStart => exact ⟨0, Nat.zero_le _, rfl⟩
              case round =>
                obtain ⟨j, hj, rfl⟩ := hrel
                by_cases hjd : j < dl.length
                · have hcd := HC.out.2 j hjd
                  have hmd := HM.out j hjd
                  go_wp2_with (at_lookup; refine wpList_lookup_true _ rfl _ _ rfl mb dl rfl hmx (few j) rfl hmd (hds _ hmd) ?_)
                  go_round
                  case rel => exact ⟨j + 1, by omega, by go_num⟩
                  case measure => simp [intOf]; omega
                · obtain rfl : j = dl.length := by omega
                  go_wp2
                  go_ret
                  exact ⟨rfl, hbel1.trans (hbx.mono hw12)⟩
end Go.Proofs.Qxb6602130a
