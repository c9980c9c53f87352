/-
  Seat b6602130a: the walk of FnKeySetAddFromAnyStateHoldsTheUnion (function 4): no key in the map: Nil.
-/
import Derived.Test.Qxb6602130aUnion
import Derived.Deep.RegionHeld3
namespace Go.Proofs.Qxb6602130a
open Go.RowKit
set_option linter.unusedVariables false

set_option maxHeartbeats 4000000 in
set_option maxRecDepth 100000 in
theorem union_nil (few : Nat → ByteArray) (nn : Int) (a : Option Addr) (cap n : Nat) (ss : Nat → ByteArray) (a2 : Option Addr) (cap2 n2 : Nat) (bs : Nat → Bool) (mnil : Bool) (k : ByteArray) (hks : k.size ≤ maxLen) (hfs : ∀ i, i < 16 → (few i).size ≤ maxLen) (hss : ∀ i, i < n → (ss i).size ≤ maxLen) (w : World) (hm : n ≤ maxLen) (hm2 : n2 ≤ maxLen) (hs : StrsAt w a n ss) (hs2 : BoolsAt w a2 n2 bs) (hsm : n ≤ 4096) (hsm2 : n2 ≤ 4096) (hkm : k.size ≤ 1048576) (hz : n = 0) (hnn0 : 0 ≤ nn) (hnnB : nn ≤ 16) (hmn : mnil = true) :
    Calls Try.prog 4 #[.agg #[.string (few 0), .string (few 1), .string (few 2), .string (few 3), .string (few 4), .string (few 5), .string (few 6), .string (few 7), .string (few 8), .string (few 9), .string (few 10), .string (few 11), .string (few 12), .string (few 13), .string (few 14), .string (few 15)], .int .i64 nn, .slice a n cap, .slice a2 n2 cap2, .bool mnil, .string k] w fun e w' => e = .returned (.bool true) ∧ Below w.heap.size w w' := by
  have hB0 : Below w.heap.size w (w.alloc (.cells #[.string (few 0), .string (few 1), .string (few 2), .string (few 3), .string (few 4), .string (few 5), .string (few 6), .string (few 7), .string (few 8), .string (few 9), .string (few 10), .string (few 11), .string (few 12), .string (few 13), .string (few 14), .string (few 15)] 25)) := (Below.refl _ _).alloc (Nat.le_refl _) _
  have hb1 := bytes2_any few nn a cap n ss a2 cap2 n2 mnil k hks hfs hss (w.alloc (.cells #[.string (few 0), .string (few 1), .string (few 2), .string (few 3), .string (few 4), .string (few 5), .string (few 6), .string (few 7), .string (few 8), .string (few 9), .string (few 10), .string (few 11), .string (few 12), .string (few 13), .string (few 14), .string (few 15)] 25)) hm hm2 (hs.below hB0 (Nat.le_refl _))
  have H1 : Hid (Calls Try.prog 13 #[.agg #[.string (few 0), .string (few 1), .string (few 2), .string (few 3), .string (few 4), .string (few 5), .string (few 6), .string (few 7), .string (few 8), .string (few 9), .string (few 10), .string (few 11), .string (few 12), .string (few 13), .string (few 14), .string (few 15)], .int .i64 nn, .slice a n cap, .slice a2 n2 cap2, .bool mnil, .string k] (w.alloc (.cells #[.string (few 0), .string (few 1), .string (few 2), .string (few 3), .string (few 4), .string (few 5), .string (few 6), .string (few 7), .string (few 8), .string (few 9), .string (few 10), .string (few 11), .string (few 12), .string (few 13), .string (few 14), .string (few 15)] 25)) fun e w' => AnyBool e ∧ Below (w.alloc (.cells #[.string (few 0), .string (few 1), .string (few 2), .string (few 3), .string (few 4), .string (few 5), .string (few 6), .string (few 7), .string (few 8), .string (few 9), .string (few 10), .string (few 11), .string (few 12), .string (few 13), .string (few 14), .string (few 15)] 25)).heap.size (w.alloc (.cells #[.string (few 0), .string (few 1), .string (few 2), .string (few 3), .string (few 4), .string (few 5), .string (few 6), .string (few 7), .string (few 8), .string (few 9), .string (few 10), .string (few 11), .string (few 12), .string (few 13), .string (few 14), .string (few 15)] 25)) w') := hb1
  have e1 : decide ((4096 : Int) < n) = false := by simp; omega
  have e2 : decide ((4096 : Int) < n2) = false := by simp; omega
  have e3 : decide ((1048576 : Int) < k.size) = false := by simp; omega
  have hmk := mkMap
  clear hb1 hm hm2
  subst hz
  subst hmn
  obtain ⟨nu, rfl⟩ := Int.eq_ofNat_of_zero_le hnn0
  have hnn16 : nu ≤ 16 := by omega
  have e6 : decide ((nu : Int) < 0) = false := by simp
  have e7 : decide ((16 : Int) < nu) = false := by simp; omega
  have e8 : (nu : Int) ≤ 16 := by omega
  clear e1 hsm
  go_enter Try.func4, Try.ntmps4
  go_wp2_with (go_at_call 13; refine H1.out.mono ?_; rintro e w1 ⟨⟨r, rfl⟩, hb2⟩; cases r)
  · go_ret; exact ⟨rfl, hB0.trans (hb2.mono (by simp))⟩
  clear H1
  have hB1 : Below w.heap.size w w1 := hB0.trans (hb2.mono (by simp))
  have hH1 : w1.heap[w.heap.size]? = some (.cells #[.string (few 0), .string (few 1), .string (few 2), .string (few 3), .string (few 4), .string (few 5), .string (few 6), .string (few 7), .string (few 8), .string (few 9), .string (few 10), .string (few 11), .string (few 12), .string (few 13), .string (few 14), .string (few 15)] 25 (0, 0)) := heap_kept (heap_alloc_new w _) hb2 (by simp)
  have hws : w.heap.size < w1.heap.size := by have := hb2.size; simp at this; omega
  have hs1 := hs.below hB1 (Nat.le_refl _)
  have hs21 := hs2.below hB1 (Nat.le_refl _)
  clear hb2 hB0 hs hs2
  have HC : Hid (∀ i, i < 16 → w1.cell? ⟨w.heap.size, i, none⟩ = some (.string (few i))) := fun i hi => by
    have := few16_at few i hi
    simp only [World.cell?, hH1]
    exact this
  go_loop [13, 14] (fun t i => ∃ (j : Nat) (z : Int), j ≤ 16 ∧ i = .int .i64 j ∧ t = .int .i64 z ∧ 0 ≤ z ∧ z ≤ 2097152) (fun _ i => 16 - (intOf i).toNat)
  case atStart => exact ⟨0, _, Nat.zero_le _, rfl, rfl, by omega, by omega⟩
  case round =>
    obtain ⟨j, z, hj, rfl, rfl, hzA, hzB⟩ := hrel
    by_cases hlt : j < 16
    · have hcj := HC.out j hlt
      have hsj := hfs j hlt
      unfold maxLen at hsj
      clear hfs hss
      go_wp2
      · go_ret; exact ⟨rfl, hB1⟩
      · go_ret; exact ⟨rfl, hB1⟩
      · go_round
        case rel => exact ⟨j + 1, _, by omega, by go_num, rfl, by omega, by omega⟩
        case measure => simp [intOf]; omega
    obtain rfl : j = 16 := by omega
    clear hlt hj
    go_wp2
    go_loop [13, 15] (fun t i => ∃ (j : Nat) (z : Int), j ≤ 0 ∧ i = .int .i64 j ∧ t = .int .i64 z ∧ 0 ≤ z ∧ z ≤ 2097152) (fun _ i => 0 - (intOf i).toNat)
    case atStart => exact ⟨0, _, Nat.zero_le _, rfl, rfl, by omega, by omega⟩
    case round =>
      obtain ⟨j, z, hj, rfl, rfl, hzA, hzB⟩ := hrel
      by_cases hlt : j < 0
      · exact absurd hlt (Nat.not_lt_zero j)
      obtain rfl : 0 = j := by omega
      clear hlt hj

      go_wp2_with (first
        | (go_at_call 8; refine (clone_any a cap 0 ss _ (by omega) hs1).mono ?_; rintro e w2 ⟨a3, cap3, rfl, hs3, hbel2⟩)
        | (go_at_call 14; refine (cloneBools_any a2 cap2 n2 bs w2 (by omega) (hs21.below hbel2 (Nat.le_refl _))).mono ?_; rintro e w3 ⟨a4, cap4, rfl, hs4, hbel3⟩))
      have hB3 : Below w1.heap.size w1 w3 := hbel2.trans (hbel3.mono hbel2.size)
      have hz3 := hB3.size
      have hHo : w3.heap[w.heap.size]? = some (.cells #[.string (few 0), .string (few 1), .string (few 2), .string (few 3), .string (few 4), .string (few 5), .string (few 6), .string (few 7), .string (few 8), .string (few 9), .string (few 10), .string (few 11), .string (few 12), .string (few 13), .string (few 14), .string (few 15)] 25 (0, 0)) := heap_kept hH1 hB3 hws
      have hBo : Below w.heap.size w w3 := hB1.trans (hB3.mono (by omega))
      have hBig : w.heap.size < w3.heap.size := by first | omega | (simp; omega)
      obtain ⟨dl, hdl⟩ : ∃ dl, dl = dist (firsts few nu) := ⟨_, rfl⟩
      have hdlen : dl.length ≤ 16 := by rw [hdl]; exact Nat.le_trans (length_dist _) (by rw [length_firsts]; omega)
      have hds : ∀ s ∈ dl, s.size ≤ maxLen := by
        intro s hs
        rw [hdl, mem_dist, mem_firsts] at hs
        obtain ⟨q, hq, rfl⟩ := hs
        exact hfs q (by omega)
      have Hdd : Hid (Calls Try.prog 15 #[.slice (some ⟨w3.heap.size, 0, none⟩) nu 16] (w3.alloc (.cells #[.string (few 0), .string (few 1), .string (few 2), .string (few 3), .string (few 4), .string (few 5), .string (few 6), .string (few 7), .string (few 8), .string (few 9), .string (few 10), .string (few 11), .string (few 12), .string (few 13), .string (few 14), .string (few 15)] 25)) fun e w' => DistPost (w3.alloc (.cells #[.string (few 0), .string (few 1), .string (few 2), .string (few 3), .string (few 4), .string (few 5), .string (few 6), .string (few 7), .string (few 8), .string (few 9), .string (few 10), .string (few 11), .string (few 12), .string (few 13), .string (few 14), .string (few 15)] 25)) dl e w') := dist_few few nu hnn16 dl hdl.symm w3
      have hmap : MapIs w3 none [] false := .inl ⟨rfl, rfl⟩
      have HDL : Hid (dl = dist (firsts few nu)) := hdl
      clear hs1 hs21 hs3 hs4 hbel2 hbel3 HC hH1 hB1 hB3 hdl
      refine wp_loop_rounds 1 ?_
      rw [rounds_succ]
      go_wp2_with (first
        | (refine wpList_load_row rfl 25 _ rfl w.heap.size rfl 25 _ (0, 0) _ hHo Try.underlying25 rfl (by kernel_rfl) ?_)
        | (go_at_call 15; refine Hdd.out.mono ?_; rintro e wx ⟨g, capg, rfl, hst, hbelx⟩; have hHx : wx.heap[w.heap.size]? = some (.cells #[.string (few 0), .string (few 1), .string (few 2), .string (few 3), .string (few 4), .string (few 5), .string (few 6), .string (few 7), .string (few 8), .string (few 9), .string (few 10), .string (few 11), .string (few 12), .string (few 13), .string (few 14), .string (few 15)] 25 (0, 0)) := heap_kept (heap_kept hHo ((Below.refl _ _).alloc (Nat.le_refl _) _) hBig) hbelx (by simp; omega)))
      have hmapx : MapIs wx none [] false := (hmap.alloc _).below hbelx
      have hBx : Below w.heap.size w wx := (hBo.alloc hBo.size _).trans (hbelx.mono (by simp; omega))
      have hsay : Says few nu [] dl := .inl ⟨rfl, nu, hnn16, rfl, HDL.out.symm⟩
      have hmb : ∀ b, none = some b → w.heap.size ≤ b := fun b e => by cases e
      have hwx : w.heap.size < wx.heap.size := by have := hbelx.size; simp at this; omega
      clear Hdd hmap hHo hBo hbelx
      have hfin9 : ∀ w9 : World, Below wx.heap.size wx w9 → MapIs w9 none [] false := fun w9 h => hmapx.below h
      by_cases hmem : k ∈ dl
      · as_aux_lemma =>
        have hmB := memB_iff.2 hmem
        go_wp2_with (first
          | (go_at_call 10; refine (indexOf_yes (some ⟨g, 0, none⟩) capg dl.length _ k wx (by omega) hst (mem_getD hmem)).mono ?_; rintro e w8 ⟨r, rfl, hr, hw⟩; obtain rfl := hw.symm)
          | (refine wpList_load_row rfl 25 _ rfl w.heap.size rfl 25 _ (0, 0) _ hHx Try.underlying25 rfl (by kernel_rfl) ?_)
          | (go_at_call 9; refine (newKeySet_any _ rfl few (fun i hi => few16_at few i hi) nu none wx).mono ?_; rintro e w9 ⟨rfl, hrow9, hsz9, hbel9⟩)
          | (go_at_call 11; refine (step2 (wx.heap.size + 1) few nu none [] dl hfs (by omega) k hks w9 hrow9 (hfin9 w9 hbel9) hsay).mono ?_; rintro e w10 ⟨rfl, hafter, hkp⟩))
        have hst10 := before_kept2 hst hbel9 (hfin9 w9 hbel9) (Nat.le_succ _) hkp
        have hB10 : Below w.heap.size w w10 := (hBx.trans (hbel9.mono (by omega))).trans (hkp.below (fun i h => h.elim (fun e => by omega) (fun e => hmb i e.symm)) (by omega))
        rw [add1_old hmem] at hafter
        obtain ⟨few2, n3, m2, L2, hrow2, hmap2, hsay2⟩ := hafter
        have hz10 : w.heap.size ≤ w10.heap.size := hB10.size
        have hkd : k ∈ dl := hmem
        clear hst hrow9 hfin9 hkp hBx hmapx hHx hsay hbel9
        rcases hsay2 with ⟨rfl, nn2, hnn2, rfl, hd2⟩ | ⟨hL2, hne2⟩
        · as_aux_lemma =>
          obtain ⟨qk, hqk, hqe⟩ : ∃ q, q < nn2 ∧ few2 q = k := by rw [← hd2, mem_dist, mem_firsts] at hkd; exact hkd
          have hn16 : decide ((16 : Int) < nn2) = false := by simp; omega
          have hn0 : decide ((nn2 : Int) < 0) = false := by simp
          have hnI : (nn2 : Int) ≤ 16 := by omega
          go_wp2_with (go_at_call 12; refine (state_any (wx.heap.size + 1) few2 nn2 m2 w10 hrow2).mono ?_; rintro e w11 ⟨rfl, hb11⟩; have hm11 := (hmap2.below hb11).alloc (.cells #[.string (few2 0), .string (few2 1), .string (few2 2), .string (few2 3), .string (few2 4), .string (few2 5), .string (few2 6), .string (few2 7), .string (few2 8), .string (few2 9), .string (few2 10), .string (few2 11), .string (few2 12), .string (few2 13), .string (few2 14), .string (few2 15)] 25); have HL := hm11.len; have Hdd : Hid (Calls Try.prog 15 #[.slice (some ⟨w11.heap.size, 0, none⟩) nn2 16] (w11.alloc (.cells #[.string (few2 0), .string (few2 1), .string (few2 2), .string (few2 3), .string (few2 4), .string (few2 5), .string (few2 6), .string (few2 7), .string (few2 8), .string (few2 9), .string (few2 10), .string (few2 11), .string (few2 12), .string (few2 13), .string (few2 14), .string (few2 15)] 25)) fun e w' => DistPost (w11.alloc (.cells #[.string (few2 0), .string (few2 1), .string (few2 2), .string (few2 3), .string (few2 4), .string (few2 5), .string (few2 6), .string (few2 7), .string (few2 8), .string (few2 9), .string (few2 10), .string (few2 11), .string (few2 12), .string (few2 13), .string (few2 14), .string (few2 15)] 25)) dl e w') := dist_few few2 nn2 hnn2 dl hd2 w11)
          clear hn16 hn0 hnI HL
          go_wp2_with (first
            | (go_at_call 15; refine Hdd.out.mono ?_; rintro e w12 ⟨g2, capg2, rfl, _, hb12⟩; have hH12 : w12.heap[w11.heap.size]? = some (.cells #[.string (few2 0), .string (few2 1), .string (few2 2), .string (few2 3), .string (few2 4), .string (few2 5), .string (few2 6), .string (few2 7), .string (few2 8), .string (few2 9), .string (few2 10), .string (few2 11), .string (few2 12), .string (few2 13), .string (few2 14), .string (few2 15)] 25 (0, 0)) := heap_kept (heap_alloc_new w11 _) hb12 (by simp); have hm12 := hm11.below hb12)
            | (refine wpList_load_row rfl 25 _ rfl w11.heap.size rfl 25 _ (0, 0) _ hH12 Try.underlying25 rfl (by kernel_rfl) ?_)
            | (go_at_call 16; refine (held_few few2 nn2 hnn2 m2 false k w12 hm12 qk hqk hqe).mono ?_; rintro e w13 ⟨rfl, hb13⟩))
          have hsz12 := hb12.size
          have hb1013 : Below w10.heap.size w10 w13 := ((hb11.alloc hb11.size _).trans (hb12.mono (by simp; have := hb11.size; omega))).trans (hb13.mono (by simp at hsz12; have := hb11.size; omega))
          have hm13 := hm12.below hb13
          have hH13 := heap_kept hH12 hb13 (by simp at hsz12; omega)
          clear hm11 hm12 hH12 Hdd hb11 hb12 hb13 hsz12 hqe
          have hst13 := hst10.below hb1013 (Nat.le_refl _)
          have hB13 := hB10.trans (hb1013.mono hz10)
          clear hst10 hrow2 hmap2 hb1013 hB10
          go_loopw [28] (fun i wr => ∃ j : Nat, j ≤ dl.length ∧ i = .int .i64 j ∧ Below w13.heap.size w13 wr) (fun i _ => dl.length - (intOf i).toNat)
          case atStart => exact ⟨0, Nat.zero_le _, rfl, Below.refl _ _⟩
          case round =>
            obtain ⟨j, hj, rfl, hbr⟩ := hrel
            by_cases hlt : j < dl.length
            · have hs0 := getD_mem hlt
              have hcj : wr.cell? ⟨g, j, none⟩ = some (.string (dl.getD j ByteArray.empty)) := by
                rcases hst13.below hbr (Nat.le_refl _) with h0 | ⟨b', off', e, _, hc⟩
                · omega
                · cases e
                  have := hc j hlt
                  rwa [Nat.zero_add] at this
              generalize dl.getD j ByteArray.empty = s at hs0 hcj
              have hsd : s ∈ dl := hs0
              obtain ⟨qs, hqs, hqse⟩ : ∃ q, q < nn2 ∧ few2 q = s := by rw [← hd2, mem_dist, mem_firsts] at hsd; exact hsd
              have hqse' : Hid (few2 qs = s) := hqse
              clear hqse
              have hrg : wr.rangeAt w11.heap.size 0 [.string (few2 0), .string (few2 1), .string (few2 2), .string (few2 3), .string (few2 4), .string (few2 5), .string (few2 6), .string (few2 7), .string (few2 8), .string (few2 9), .string (few2 10), .string (few2 11), .string (few2 12), .string (few2 13), .string (few2 14), .string (few2 15)] := range_below (range_few hH13) hbr
              have hmr : MapIs wr.drew m2 [] false := (hm13.below hbr).kept (Kept.refl (fun _ => False) wr).drew (fun _ _ h => h)
              have h25 := Try.underlying25
              have h25s : (Try.prog.info? 25).map (·.size) = some 16 := by kernel_rfl
              clear hst13 hH13 hm13
              go_wp2
              go_region_held3 (fun w' => w'.rangeAt w11.heap.size 0 [.string (few2 0), .string (few2 1), .string (few2 2), .string (few2 3), .string (few2 4), .string (few2 5), .string (few2 6), .string (few2 7), .string (few2 8), .string (few2 9), .string (few2 10), .string (few2 11), .string (few2 12), .string (few2 13), .string (few2 14), .string (few2 15)] ∧ w'.cell? ⟨g, j, none⟩ = some (.string s)) (go_keep_ranges) (first | (go_at_call 16; refine (held_few few2 nn2 hnn2 m2 false s wr.drew hmr qs hqs hqse'.out).mono ?_; rintro e w14 ⟨rfl, hb14⟩; have hq1 := range_below (w := wr.drew) hrg hb14; have hq2 : w14.cell? ⟨g, j, none⟩ = some (.string s) := (hb14.cell (p := ⟨g, j, none⟩) (World.block_lt_of_cell? wr _ hcj)).trans hcj))
              go_wp2
              go_roundw
              case rel => exact ⟨j + 1, by omega, by go_num, hbr.trans (((Below.refl _ wr).drew).trans (hb14.mono hbr.size))⟩
              case measure => simp [intOf]; omega
            · obtain rfl : j = dl.length := by omega
              clear hst13 hH13 hm13
              go_wp2
              go_ret
              exact ⟨rfl, hB13.trans (hbr.mono hB13.size)⟩
        · as_aux_lemma =>
          obtain rfl := hL2.symm
          obtain ⟨b2, rfl⟩ : ∃ b2, m2 = some b2 := by
            rcases hmap2 with ⟨_, e⟩ | ⟨b2, _, e, _⟩
            · exact absurd e hne2
            · exact ⟨b2, e⟩
          have hb0 : ((dl.length : Int) == 0) = false := beq_eq_false_iff_ne.2 (by have := List.length_pos_of_mem hmem; omega)
          go_wp2_with (first
            | (go_at_call 12; refine (state_any (wx.heap.size + 1) few2 n3 (some b2) w10 hrow2).mono ?_; rintro e w11 ⟨rfl, hb11⟩; have hm11 := (hmap2.below hb11).alloc (.cells #[.string (few2 0), .string (few2 1), .string (few2 2), .string (few2 3), .string (few2 4), .string (few2 5), .string (few2 6), .string (few2 7), .string (few2 8), .string (few2 9), .string (few2 10), .string (few2 11), .string (few2 12), .string (few2 13), .string (few2 14), .string (few2 15)] 25); have HL := hm11.len)
            | (go_at_call 16; refine (held_many few2 n3 b2 dl false k hks (w11.alloc (.cells #[.string (few2 0), .string (few2 1), .string (few2 2), .string (few2 3), .string (few2 4), .string (few2 5), .string (few2 6), .string (few2 7), .string (few2 8), .string (few2 9), .string (few2 10), .string (few2 11), .string (few2 12), .string (few2 13), .string (few2 14), .string (few2 15)] 25)) hm11 hkd).mono ?_; rintro e w13 ⟨rfl, hb13⟩))
          have hb1013 : Below w10.heap.size w10 w13 := (hb11.alloc hb11.size _).trans (hb13.mono (by simp; have := hb11.size; omega))
          have hm13 := hm11.below hb13
          have hH13 : w13.heap[w11.heap.size]? = some (.cells #[.string (few2 0), .string (few2 1), .string (few2 2), .string (few2 3), .string (few2 4), .string (few2 5), .string (few2 6), .string (few2 7), .string (few2 8), .string (few2 9), .string (few2 10), .string (few2 11), .string (few2 12), .string (few2 13), .string (few2 14), .string (few2 15)] 25 (0, 0)) := heap_kept (heap_alloc_new w11 _) hb13 (by simp)
          clear hm11 HL hb11 hb13
          have hst13 := hst10.below hb1013 (Nat.le_refl _)
          have hB13 := hB10.trans (hb1013.mono hz10)
          clear hst10 hrow2 hmap2 hb1013 hB10
          go_loopw [28] (fun i wr => ∃ j : Nat, j ≤ dl.length ∧ i = .int .i64 j ∧ Below w13.heap.size w13 wr) (fun i _ => dl.length - (intOf i).toNat)
          case atStart => exact ⟨0, Nat.zero_le _, rfl, Below.refl _ _⟩
          case round =>
            obtain ⟨j, hj, rfl, hbr⟩ := hrel
            by_cases hlt : j < dl.length
            · have hs0 := getD_mem hlt
              have hcj : wr.cell? ⟨g, j, none⟩ = some (.string (dl.getD j ByteArray.empty)) := by
                rcases hst13.below hbr (Nat.le_refl _) with h0 | ⟨b', off', e, _, hc⟩
                · omega
                · cases e
                  have := hc j hlt
                  rwa [Nat.zero_add] at this
              generalize dl.getD j ByteArray.empty = s at hs0 hcj
              have hsd : s ∈ dl := hs0
              have hssz : s.size ≤ maxLen := hds s hs0
              have hrg : wr.rangeAt w11.heap.size 0 [.string (few2 0), .string (few2 1), .string (few2 2), .string (few2 3), .string (few2 4), .string (few2 5), .string (few2 6), .string (few2 7), .string (few2 8), .string (few2 9), .string (few2 10), .string (few2 11), .string (few2 12), .string (few2 13), .string (few2 14), .string (few2 15)] := range_below (range_few hH13) hbr
              have hmr : MapIs wr.drew (some b2) dl false := (hm13.below hbr).kept (Kept.refl (fun _ => False) wr).drew (fun _ _ h => h)
              have h25 := Try.underlying25
              have h25s : (Try.prog.info? 25).map (·.size) = some 16 := by kernel_rfl
              clear hst13 hH13 hm13
              go_wp2
              go_region_held3 (fun w' => w'.rangeAt w11.heap.size 0 [.string (few2 0), .string (few2 1), .string (few2 2), .string (few2 3), .string (few2 4), .string (few2 5), .string (few2 6), .string (few2 7), .string (few2 8), .string (few2 9), .string (few2 10), .string (few2 11), .string (few2 12), .string (few2 13), .string (few2 14), .string (few2 15)] ∧ w'.cell? ⟨g, j, none⟩ = some (.string s)) (go_keep_ranges) (first | (go_at_call 16; refine (held_many few2 n3 b2 dl false s hssz wr.drew hmr hsd).mono ?_; rintro e w14 ⟨rfl, hb14⟩; have hq1 := range_below (w := wr.drew) hrg hb14; have hq2 : w14.cell? ⟨g, j, none⟩ = some (.string s) := (hb14.cell (p := ⟨g, j, none⟩) (World.block_lt_of_cell? wr _ hcj)).trans hcj))
              go_wp2
              go_roundw
              case rel => exact ⟨j + 1, by omega, by go_num, hbr.trans (((Below.refl _ wr).drew).trans (hb14.mono hbr.size))⟩
              case measure => simp [intOf]; omega
            · obtain rfl : j = dl.length := by omega
              clear hst13 hH13 hm13
              go_wp2
              go_ret
              exact ⟨rfl, hB13.trans (hbr.mono hB13.size)⟩
      · as_aux_lemma =>
        have hmB := memB_not.2 hmem
        go_wp2_with (first
          | (go_at_call 10; refine (indexOf_no (some ⟨g, 0, none⟩) capg dl.length _ k wx (by omega) hst (fun q hq e => hmem (e ▸ getD_mem hq))).mono ?_; rintro e w8 ⟨rfl, hw⟩; obtain rfl := hw.symm)
          | (refine wpList_load_row rfl 25 _ rfl w.heap.size rfl 25 _ (0, 0) _ hHx Try.underlying25 rfl (by kernel_rfl) ?_)
          | (go_at_call 9; refine (newKeySet_any _ rfl few (fun i hi => few16_at few i hi) nu none wx).mono ?_; rintro e w9 ⟨rfl, hrow9, hsz9, hbel9⟩)
          | (go_at_call 11; refine (step2 (wx.heap.size + 1) few nu none [] dl hfs (by omega) k hks w9 hrow9 (hfin9 w9 hbel9) hsay).mono ?_; rintro e w10 ⟨rfl, hafter, hkp⟩))
        have hst10 := before_kept2 hst hbel9 (hfin9 w9 hbel9) (Nat.le_succ _) hkp
        have hB10 : Below w.heap.size w w10 := (hBx.trans (hbel9.mono (by omega))).trans (hkp.below (fun i h => h.elim (fun e => by omega) (fun e => hmb i e.symm)) (by omega))
        rw [add1_new hmem] at hafter
        obtain ⟨few2, n3, m2, L2, hrow2, hmap2, hsay2⟩ := hafter
        have hz10 : w.heap.size ≤ w10.heap.size := hB10.size
        have hkd : k ∈ (dl ++ [k]) := by simp
        clear hst hrow9 hfin9 hkp hBx hmapx hHx hsay hbel9
        rcases hsay2 with ⟨rfl, nn2, hnn2, rfl, hd2⟩ | ⟨hL2, hne2⟩
        · as_aux_lemma =>
          obtain ⟨qk, hqk, hqe⟩ : ∃ q, q < nn2 ∧ few2 q = k := by rw [← hd2, mem_dist, mem_firsts] at hkd; exact hkd
          have hn16 : decide ((16 : Int) < nn2) = false := by simp; omega
          have hn0 : decide ((nn2 : Int) < 0) = false := by simp
          have hnI : (nn2 : Int) ≤ 16 := by omega
          go_wp2_with (go_at_call 12; refine (state_any (wx.heap.size + 1) few2 nn2 m2 w10 hrow2).mono ?_; rintro e w11 ⟨rfl, hb11⟩; have hm11 := (hmap2.below hb11).alloc (.cells #[.string (few2 0), .string (few2 1), .string (few2 2), .string (few2 3), .string (few2 4), .string (few2 5), .string (few2 6), .string (few2 7), .string (few2 8), .string (few2 9), .string (few2 10), .string (few2 11), .string (few2 12), .string (few2 13), .string (few2 14), .string (few2 15)] 25); have HL := hm11.len; have Hdd : Hid (Calls Try.prog 15 #[.slice (some ⟨w11.heap.size, 0, none⟩) nn2 16] (w11.alloc (.cells #[.string (few2 0), .string (few2 1), .string (few2 2), .string (few2 3), .string (few2 4), .string (few2 5), .string (few2 6), .string (few2 7), .string (few2 8), .string (few2 9), .string (few2 10), .string (few2 11), .string (few2 12), .string (few2 13), .string (few2 14), .string (few2 15)] 25)) fun e w' => DistPost (w11.alloc (.cells #[.string (few2 0), .string (few2 1), .string (few2 2), .string (few2 3), .string (few2 4), .string (few2 5), .string (few2 6), .string (few2 7), .string (few2 8), .string (few2 9), .string (few2 10), .string (few2 11), .string (few2 12), .string (few2 13), .string (few2 14), .string (few2 15)] 25)) (dl ++ [k]) e w') := dist_few few2 nn2 hnn2 (dl ++ [k]) hd2 w11)
          clear hn16 hn0 hnI HL
          go_wp2_with (first
            | (go_at_call 15; refine Hdd.out.mono ?_; rintro e w12 ⟨g2, capg2, rfl, _, hb12⟩; have hH12 : w12.heap[w11.heap.size]? = some (.cells #[.string (few2 0), .string (few2 1), .string (few2 2), .string (few2 3), .string (few2 4), .string (few2 5), .string (few2 6), .string (few2 7), .string (few2 8), .string (few2 9), .string (few2 10), .string (few2 11), .string (few2 12), .string (few2 13), .string (few2 14), .string (few2 15)] 25 (0, 0)) := heap_kept (heap_alloc_new w11 _) hb12 (by simp); have hm12 := hm11.below hb12)
            | (refine wpList_load_row rfl 25 _ rfl w11.heap.size rfl 25 _ (0, 0) _ hH12 Try.underlying25 rfl (by kernel_rfl) ?_)
            | (go_at_call 16; refine (held_few few2 nn2 hnn2 m2 false k w12 hm12 qk hqk hqe).mono ?_; rintro e w13 ⟨rfl, hb13⟩))
          have hsz12 := hb12.size
          have hb1013 : Below w10.heap.size w10 w13 := ((hb11.alloc hb11.size _).trans (hb12.mono (by simp; have := hb11.size; omega))).trans (hb13.mono (by simp at hsz12; have := hb11.size; omega))
          have hm13 := hm12.below hb13
          have hH13 := heap_kept hH12 hb13 (by simp at hsz12; omega)
          clear hm11 hm12 hH12 Hdd hb11 hb12 hb13 hsz12 hqe
          have hst13 := hst10.below hb1013 (Nat.le_refl _)
          have hB13 := hB10.trans (hb1013.mono hz10)
          clear hst10 hrow2 hmap2 hb1013 hB10
          go_loopw [28] (fun i wr => ∃ j : Nat, j ≤ dl.length ∧ i = .int .i64 j ∧ Below w13.heap.size w13 wr) (fun i _ => dl.length - (intOf i).toNat)
          case atStart => exact ⟨0, Nat.zero_le _, rfl, Below.refl _ _⟩
          case round =>
            obtain ⟨j, hj, rfl, hbr⟩ := hrel
            by_cases hlt : j < dl.length
            · have hs0 := getD_mem hlt
              have hcj : wr.cell? ⟨g, j, none⟩ = some (.string (dl.getD j ByteArray.empty)) := by
                rcases hst13.below hbr (Nat.le_refl _) with h0 | ⟨b', off', e, _, hc⟩
                · omega
                · cases e
                  have := hc j hlt
                  rwa [Nat.zero_add] at this
              generalize dl.getD j ByteArray.empty = s at hs0 hcj
              have hsd : s ∈ (dl ++ [k]) := List.mem_append_left [k] hs0
              obtain ⟨qs, hqs, hqse⟩ : ∃ q, q < nn2 ∧ few2 q = s := by rw [← hd2, mem_dist, mem_firsts] at hsd; exact hsd
              have hqse' : Hid (few2 qs = s) := hqse
              clear hqse
              have hrg : wr.rangeAt w11.heap.size 0 [.string (few2 0), .string (few2 1), .string (few2 2), .string (few2 3), .string (few2 4), .string (few2 5), .string (few2 6), .string (few2 7), .string (few2 8), .string (few2 9), .string (few2 10), .string (few2 11), .string (few2 12), .string (few2 13), .string (few2 14), .string (few2 15)] := range_below (range_few hH13) hbr
              have hmr : MapIs wr.drew m2 [] false := (hm13.below hbr).kept (Kept.refl (fun _ => False) wr).drew (fun _ _ h => h)
              have h25 := Try.underlying25
              have h25s : (Try.prog.info? 25).map (·.size) = some 16 := by kernel_rfl
              clear hst13 hH13 hm13
              go_wp2
              go_region_held3 (fun w' => w'.rangeAt w11.heap.size 0 [.string (few2 0), .string (few2 1), .string (few2 2), .string (few2 3), .string (few2 4), .string (few2 5), .string (few2 6), .string (few2 7), .string (few2 8), .string (few2 9), .string (few2 10), .string (few2 11), .string (few2 12), .string (few2 13), .string (few2 14), .string (few2 15)] ∧ w'.cell? ⟨g, j, none⟩ = some (.string s)) (go_keep_ranges) (first | (go_at_call 16; refine (held_few few2 nn2 hnn2 m2 false s wr.drew hmr qs hqs hqse'.out).mono ?_; rintro e w14 ⟨rfl, hb14⟩; have hq1 := range_below (w := wr.drew) hrg hb14; have hq2 : w14.cell? ⟨g, j, none⟩ = some (.string s) := (hb14.cell (p := ⟨g, j, none⟩) (World.block_lt_of_cell? wr _ hcj)).trans hcj))
              go_wp2
              go_roundw
              case rel => exact ⟨j + 1, by omega, by go_num, hbr.trans (((Below.refl _ wr).drew).trans (hb14.mono hbr.size))⟩
              case measure => simp [intOf]; omega
            · obtain rfl : j = dl.length := by omega
              clear hst13 hH13 hm13
              go_wp2
              go_ret
              exact ⟨rfl, hB13.trans (hbr.mono hB13.size)⟩
        · as_aux_lemma =>
          obtain rfl := hL2.symm
          obtain ⟨b2, rfl⟩ : ∃ b2, m2 = some b2 := by
            rcases hmap2 with ⟨_, e⟩ | ⟨b2, _, e, _⟩
            · exact absurd e hne2
            · exact ⟨b2, e⟩
          have hb0 : ((dl.length : Int) + 1 == 0) = false := beq_eq_false_iff_ne.2 (by omega)
          go_wp2_with (first
            | (go_at_call 12; refine (state_any (wx.heap.size + 1) few2 n3 (some b2) w10 hrow2).mono ?_; rintro e w11 ⟨rfl, hb11⟩; have hm11 := (hmap2.below hb11).alloc (.cells #[.string (few2 0), .string (few2 1), .string (few2 2), .string (few2 3), .string (few2 4), .string (few2 5), .string (few2 6), .string (few2 7), .string (few2 8), .string (few2 9), .string (few2 10), .string (few2 11), .string (few2 12), .string (few2 13), .string (few2 14), .string (few2 15)] 25); have HL := hm11.len)
            | (go_at_call 16; refine (held_many few2 n3 b2 (dl ++ [k]) false k hks (w11.alloc (.cells #[.string (few2 0), .string (few2 1), .string (few2 2), .string (few2 3), .string (few2 4), .string (few2 5), .string (few2 6), .string (few2 7), .string (few2 8), .string (few2 9), .string (few2 10), .string (few2 11), .string (few2 12), .string (few2 13), .string (few2 14), .string (few2 15)] 25)) hm11 hkd).mono ?_; rintro e w13 ⟨rfl, hb13⟩))
          have hb1013 : Below w10.heap.size w10 w13 := (hb11.alloc hb11.size _).trans (hb13.mono (by simp; have := hb11.size; omega))
          have hm13 := hm11.below hb13
          have hH13 : w13.heap[w11.heap.size]? = some (.cells #[.string (few2 0), .string (few2 1), .string (few2 2), .string (few2 3), .string (few2 4), .string (few2 5), .string (few2 6), .string (few2 7), .string (few2 8), .string (few2 9), .string (few2 10), .string (few2 11), .string (few2 12), .string (few2 13), .string (few2 14), .string (few2 15)] 25 (0, 0)) := heap_kept (heap_alloc_new w11 _) hb13 (by simp)
          clear hm11 HL hb11 hb13
          have hst13 := hst10.below hb1013 (Nat.le_refl _)
          have hB13 := hB10.trans (hb1013.mono hz10)
          clear hst10 hrow2 hmap2 hb1013 hB10
          go_loopw [28] (fun i wr => ∃ j : Nat, j ≤ dl.length ∧ i = .int .i64 j ∧ Below w13.heap.size w13 wr) (fun i _ => dl.length - (intOf i).toNat)
          case atStart => exact ⟨0, Nat.zero_le _, rfl, Below.refl _ _⟩
          case round =>
            obtain ⟨j, hj, rfl, hbr⟩ := hrel
            by_cases hlt : j < dl.length
            · have hs0 := getD_mem hlt
              have hcj : wr.cell? ⟨g, j, none⟩ = some (.string (dl.getD j ByteArray.empty)) := by
                rcases hst13.below hbr (Nat.le_refl _) with h0 | ⟨b', off', e, _, hc⟩
                · omega
                · cases e
                  have := hc j hlt
                  rwa [Nat.zero_add] at this
              generalize dl.getD j ByteArray.empty = s at hs0 hcj
              have hsd : s ∈ (dl ++ [k]) := List.mem_append_left [k] hs0
              have hssz : s.size ≤ maxLen := hds s hs0
              have hrg : wr.rangeAt w11.heap.size 0 [.string (few2 0), .string (few2 1), .string (few2 2), .string (few2 3), .string (few2 4), .string (few2 5), .string (few2 6), .string (few2 7), .string (few2 8), .string (few2 9), .string (few2 10), .string (few2 11), .string (few2 12), .string (few2 13), .string (few2 14), .string (few2 15)] := range_below (range_few hH13) hbr
              have hmr : MapIs wr.drew (some b2) (dl ++ [k]) false := (hm13.below hbr).kept (Kept.refl (fun _ => False) wr).drew (fun _ _ h => h)
              have h25 := Try.underlying25
              have h25s : (Try.prog.info? 25).map (·.size) = some 16 := by kernel_rfl
              clear hst13 hH13 hm13
              go_wp2
              go_region_held3 (fun w' => w'.rangeAt w11.heap.size 0 [.string (few2 0), .string (few2 1), .string (few2 2), .string (few2 3), .string (few2 4), .string (few2 5), .string (few2 6), .string (few2 7), .string (few2 8), .string (few2 9), .string (few2 10), .string (few2 11), .string (few2 12), .string (few2 13), .string (few2 14), .string (few2 15)] ∧ w'.cell? ⟨g, j, none⟩ = some (.string s)) (go_keep_ranges) (first | (go_at_call 16; refine (held_many few2 n3 b2 (dl ++ [k]) false s hssz wr.drew hmr hsd).mono ?_; rintro e w14 ⟨rfl, hb14⟩; have hq1 := range_below (w := wr.drew) hrg hb14; have hq2 : w14.cell? ⟨g, j, none⟩ = some (.string s) := (hb14.cell (p := ⟨g, j, none⟩) (World.block_lt_of_cell? wr _ hcj)).trans hcj))
              go_wp2
              go_roundw
              case rel => exact ⟨j + 1, by omega, by go_num, hbr.trans (((Below.refl _ wr).drew).trans (hb14.mono hbr.size))⟩
              case measure => simp [intOf]; omega
            · obtain rfl : j = dl.length := by omega
              clear hst13 hH13 hm13
              go_wp2
              go_ret
              exact ⟨rfl, hB13.trans (hbr.mono hB13.size)⟩

end Go.Proofs.Qxb6602130a
