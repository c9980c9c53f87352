/-
  Seat b6602190a: (*Register).Add: the walk.
-/
import Derived.Test.Qxb6602190aRegClose
import Derived.Deep.Cut
import Derived.Deep.RegionWith
namespace Go.Proofs.Qxb6602190a
open Go.RowKit

theorem Try.info40 : (Try.prog.info? 40).map (fun i => (i.zero, i.size, i.bytes)) = some (some (.pointer none), 1, 8) := by kernel_rfl

set_option maxHeartbeats 8000000 in
set_option maxRecDepth 100000 in
theorem add_any (B rb n T : Nat) (v : Value) (cbs : List Nat) (sh : Nat → Int) (s : ByteArray) (x y : Int) (w : World) (h : RegIs w B rb v cbs sh n T) (hlt : cbs.length * 4096 < n + 4096) (hn : n < 131072) (hT : T + s.size ≤ 1048576) (hB : B ≤ w.heap.size) :
    Calls Try.prog 14 #[.pointer (some ⟨rb, 0, none⟩), .string s, .int .i64 x, .int .i64 y] w fun e w' => e = .returned (.tuple #[]) ∧ RegAt w w' B rb (fun i => if i = n then x else sh i) (n + 1) (T + s.size) := by
  have c1 : w.cell? ⟨rb, 1, none⟩ = some (.int .i64 n) := by rw [cell_of_row _ _ _ _ _ _ h.reg]; rfl
  obtain ⟨i40, hi40, hz40, hs40, hb40⟩ := info_parts Try.info40
  go_enter Try.func14, Try.ntmps14
  go_upto_if 16 with (fail)
  go_cut [] from 8 (fun wc => AddMid w wc B rb sh n T)
  case first =>
    by_cases h0 : n % 4096 = 0
    · have hlen : cbs.length * 4096 = n := by have := h.room; omega
      have h0i : ((n : Int) % 4096 == 0) = true := by simp; omega
      obtain ⟨Z, hZs, hZ0, hZ1, hZ⟩ := zero48
      obtain ⟨a0, c0', rfl⟩ := own_slice h.own
      have hlt2 := lt_of_heap h.reg
      have hk1 : Kept (fun _ => False) w (w.alloc (.cells Z 48)) := (Kept.refl (fun _ => False) w).alloc _
      have hch1 : ChunkIs (w.alloc (.cells Z 48)).drew B w.heap.size Z 0 := ⟨heap_alloc_new w _, hZs, .inl hZ0, _, [], hZ1, World.ownsRow_nil _ B 5 1⟩
      have hv1 := hk1.own h.own (fun _ _ e => e)
      have c0 : w.cell? ⟨rb, 0, none⟩ = some (.slice a0 cbs.length c0') := (cell_of_row _ _ _ _ _ _ h.reg).trans rfl
      by_cases hn0 : n = 0
      · have hq3 : ((0 : Int) < (cbs.length : Int)) = False := eq_false (by omega)
        have hq4 : cbs.length = 0 := by omega
        have hq5 : Hid (cbs.length = 0) := hq4
        have hq6 : decide ((0 : Int) < (cbs.length : Int)) = false := decide_eq_false (by omega)
        clear hq4
        go_wp2_with (at_builtin; refine wpList_append_own _ rfl _ _ 34 rfl B 40 i40 (.pointer none) 1 8 Try.underlying34 hi40 hz40 hs40 hb40 rfl (by decide) (Value.slice a0 cbs.length c0') cbs.length (cbs.map fun b => .pointer (some ⟨b, 0, none⟩)) rfl (hv1.alloc _) ⟨w.heap.size + 1, 0, none⟩ 1 1 [.pointer (some ⟨w.heap.size, 0, none⟩)] rfl rfl ?c2 ?c6 ?c3 ?c4 ?c5 ?_)
        case c2 =>
          have hc := cell_one_new (w.alloc (.cells Z 48)) (.pointer (some ⟨w.heap.size, 0, none⟩)) 40
          rw [show (w.alloc (.cells Z 48)).heap.size = w.heap.size + 1 by simp] at hc
          exact hc
        case c6 => intro u hu; simp at hu; subst hu; rfl
        case c3 => unfold maxLen; omega
        case c4 => omega
        case c5 => have := hk1.size; simp; omega
        intro v5 w5 hown5 hgrow5 _
        obtain ⟨a5, c5', rfl⟩ := own_slice hown5
        have hr5 : w5.heap[rb]? = some (.cells #[Value.slice a0 cbs.length c0', .int .i64 n] 36 (0, 0)) := (((Kept.refl (fun i => some i = (Value.slice a0 cbs.length c0').ownBlock) (w.alloc (.cells Z 48))).alloc _).trans (Kept.of_grown hgrow5) (fun _ _ e => e)).heap (hk1.heap h.reg id) (fun e => own_ne hv1 (hk1.heap h.reg id) (by decide) e.symm)
        have c50 : w5.cell? ⟨rb, 0, none⟩ = some (Value.slice a0 cbs.length c0') := by rw [cell_of_row _ _ _ _ _ _ hr5]; rfl
        have f50 : w5.frozen? ⟨rb, 0, none⟩ = false := frozen_of_row _ _ _ _ _ hr5
        go_wp2
        go_meet
        case rel => exact open_close h hlen (Nat.le_refl _) hB hk1 ⟨hch1.heap, hch1.size, hch1.addr, hch1.buf⟩ rfl hown5 hgrow5
      · have hq : cbs.length - 1 < cbs.length := by omega
        obtain ⟨g, cap, hvE, hg, hglt, hle, hmax, hcell⟩ := h.row (fun e => by rw [e] at hq; simp at hq)
        obtain ⟨b, hb⟩ : ∃ b, cbs[cbs.length - 1]? = some b := ⟨_, List.getElem?_eq_getElem hq⟩
        obtain ⟨hBb, Cp, ap, mp, cp, hhp, hsp, hCp, hmp, hshp⟩ := h.chunk _ b hb
        have c2 := hcell _ b hb
        obtain ⟨rfl, rfl⟩ : a0 = some ⟨g, 0, none⟩ ∧ c0' = cap := by cases hvE; exact ⟨rfl, rfl⟩
        clear hvE
        have c3 : w.cell? ⟨b, 1, none⟩ = some (.slice ap mp cp) := (cell_of_row _ _ _ _ _ _ hhp).trans hCp
        have hb2 := lt_of_heap hhp
        have hq1 : (0 : Int) ≤ (cbs.length : Int) - 1 := by omega
        have hq2 : (cbs.length : Int) - 1 < (cbs.length : Int) := by omega
        have hq3 : (0 : Int) < (cbs.length : Int) := by omega
        have hto : ((cbs.length : Int) - 1).toNat = cbs.length - 1 := by omega
        have hlen1 : cbs.length ≤ 32 := by omega
        have hml : cbs.length + 1 ≤ maxLen := by unfold maxLen; omega
        have hby8 : (cbs.length + 1) * 8 ≤ 140737488355328 := by omega
        have hone : ∀ u ∈ [Value.pointer (some ⟨w.heap.size, 0, none⟩)], u.oneCell' = true := by intro u hu; simp at hu; subst hu; rfl
        have hwr : IntKind.i64.wrap ((cbs.length : Int) - 1) = (cbs.length : Int) - 1 := by rw [IntKind.wrap_i64]; omega
        have HL := len_any b ap mp cp (w.alloc (.cells Z 48)).drew ((hk1.cell (a := ⟨b, 1, none⟩) hb2 id).trans c3)
        have HG := Grow_fresh B w.heap.size mp Z (w.alloc (.cells Z 48)).drew hch1 hZ1 (by omega) (by show B ≤ (w.alloc (.cells Z 48)).heap.size; simp; omega)
        clear hcell hb hq hshp hhp
        go_wp2
        go_region_with (first
          | (go_at_call 18; refine HL.mono ?_; rintro e w2 ⟨rfl, rfl⟩)
          | (go_at_call 17; refine HG.mono ?_; rintro e w2 ⟨rfl, Z2, hch2, hZ2, hk12⟩; have hk2 : Kept (fun _ => False) w w2 := (hk1.drew).trans hk12 (fun i hi e => by omega); have hs2 : w.heap.size ≤ w2.heap.size := hk2.size; have hv2 := hk2.own h.own (fun _ _ e => e); have hr2 := hk2.heap h.reg id; have c20 : w2.cell? ⟨rb, 0, none⟩ = some (.slice (some ⟨g, 0, none⟩) cbs.length c0') := (cell_of_row _ _ _ _ _ _ hr2).trans rfl))
        all_goals (
        go_wp2_with (at_builtin; refine wpList_append_own _ rfl _ _ 34 rfl B 40 i40 (.pointer none) 1 8 Try.underlying34 hi40 hz40 hs40 hb40 rfl (by decide) (Value.slice (some ⟨g, 0, none⟩) cbs.length c0') cbs.length (cbs.map fun b => .pointer (some ⟨b, 0, none⟩)) rfl (hv2.alloc _) ⟨w2.heap.size, 0, none⟩ 1 1 [.pointer (some ⟨w.heap.size, 0, none⟩)] rfl rfl (cell_one_new w2 _ 40) hone hml hby8 (by simp; omega) ?_)
        intro v5 w5 hown5 hgrow5 _
        obtain ⟨a5, c5', rfl⟩ := own_slice hown5
        have hr5 : w5.heap[rb]? = some (.cells #[Value.slice (some ⟨g, 0, none⟩) cbs.length c0', .int .i64 n] 36 (0, 0)) := (((Kept.refl (fun i => some i = (Value.slice (some ⟨g, 0, none⟩) cbs.length c0').ownBlock) w2).alloc _).trans (Kept.of_grown hgrow5) (fun _ _ e => e)).heap (hk2.heap h.reg id) (fun e => own_ne hv2 (hk2.heap h.reg id) (by decide) e.symm)
        have c50 : w5.cell? ⟨rb, 0, none⟩ = some (Value.slice (some ⟨g, 0, none⟩) cbs.length c0') := by rw [cell_of_row _ _ _ _ _ _ hr5]; rfl
        have f50 : w5.frozen? ⟨rb, 0, none⟩ = false := frozen_of_row _ _ _ _ _ hr5
        go_wp2
        go_meet
        case rel => exact open_close h hlen (Nat.le_refl _) hB hk2 hch2 rfl hown5 hgrow5)
    · have h0i : ((n : Int) % 4096 == 0) = false := beq_eq_false_iff_ne.2 (by omega)
      go_wp2
      go_meet
      case rel => exact ⟨v, cbs, h, by have := h.room; omega, Kept.refl _ _⟩
  case rest =>
    clear c1
    obtain ⟨v, cbs, hr, hlt, hk⟩ := hcut
    have hq : n / 4096 < cbs.length := by omega
    obtain ⟨g, cap, rfl, hg, hglt, hle, hmax, hcell⟩ := hr.row (fun e => by rw [e] at hq; simp at hq)
    obtain ⟨b, hb⟩ : ∃ b, cbs[n / 4096]? = some b := ⟨_, List.getElem?_eq_getElem hq⟩
    obtain ⟨C, m, hch, hm⟩ := hr.last b hb
    have c0 : wc.cell? ⟨rb, 0, none⟩ = some (.slice (some ⟨g, 0, none⟩) cbs.length cap) := by rw [cell_of_row _ _ _ _ _ _ hr.reg]; rfl
    have c1 : wc.cell? ⟨rb, 1, none⟩ = some (.int .i64 n) := by rw [cell_of_row _ _ _ _ _ _ hr.reg]; rfl
    have c2 := hcell _ b hb
    have hq1 : (0 : Int) ≤ (n : Int) / 4096 := by omega
    have hq2 : (n : Int) / 4096 < (cbs.length : Int) := by omega
    have hj1 : (0 : Int) ≤ (n : Int) % 4096 := by omega
    have hj2 : (n : Int) % 4096 < 4096 := by omega
    have hj3 : n % 4096 < 4096 := by omega
    have hto : ((n : Int) % 4096).toNat = n % 4096 := by omega
    have hBc : B ≤ wc.heap.size := by have := hk.size; omega
    have Hw := fun nq => write_any B b m C s (wc.drewN nq) ⟨hch.heap, hch.size, hch.addr, hch.buf⟩ (by omega) hBc
    have hbq : Hid (cbs[n / 4096]? = some b) := hb
    clear hcell hb hq
    go_wp2
    go_quiet (fail)
    go_upto_region 7 with (go_at_call 19; refine (Hw _).mono ?_; rintro e w1 ⟨rfl, C1, h1, hC1, hty, hk1⟩; obtain ⟨v1, bs1, hv1, how1⟩ := h1.buf; obtain ⟨a1, c1', rfl⟩ := own_slice how1; have d1 : w1.cell? ⟨b, 1, none⟩ = some (.slice a1 (m + s.size) c1') := (h1.cell 1).trans hv1; obtain ⟨o2, d2⟩ := h1.some (2 + n % 4096) (by omega); obtain ⟨o3, d3⟩ := h1.some (4098 + n % 4096) (by omega); obtain ⟨o4, d4⟩ := h1.some (8194 + n % 4096) (by omega); have f2 := h1.frozen (2 + n % 4096); have f3 := h1.frozen (4098 + n % 4096); have f4 := h1.frozen (8194 + n % 4096))
    go_cut [] from 11 (fun wx => Stored w1 wx b (n % 4096) x C1)
    case first =>
      clear Hw hty hC1
      have HL := len_any b a1 (m + s.size) c1' w1.drew d1
      go_region_with (go_at_call 18; refine HL.mono ?_; rintro e w2 ⟨rfl, rfl⟩)
      go_wp2_with fail
      go_meet
      case rel => exact stored_of w1 b (n % 4096) x _ _ C1 h1.heap h1.size hj3
    case rest =>
      have hrb : rb ≠ b := ne_of_type hr.reg hch.heap (by decide)
      have hcl := add_close hk hr hbq hch hm h1 hC1 hty ⟨hk1.os, hk1.tape, hk1.output, hk1.size, hk1.block⟩ hcut
      obtain ⟨C2, hx, _, _, _, _, _, hkx⟩ := hcut
      have hrx : wc.heap[rb]? = some (.cells #[.slice (some ⟨g, 0, none⟩) cbs.length cap, .int .i64 n] 36 (0, 0)) := hkx.heap (hty _ _ _ hr.reg hrb (by decide)) hrb
      have e1 : wc.cell? ⟨rb, 1, none⟩ = some (.int .i64 n) := by rw [cell_of_row _ _ _ _ _ _ hrx]; rfl
      have e2 : wc.frozen? ⟨rb, 1, none⟩ = false := frozen_of_row _ _ _ _ _ hrx
      clear hty hC1 Hw
      go_wp2
      go_end0
      exact ⟨rfl, hcl⟩
end Go.Proofs.Qxb6602190a
