/-
  Seat b6602190a: kthMost (function 16): the walk.
-/
import Derived.Test.Qxb6602190aKthPlain
import Derived.Test.Qxb6602190aKthBase
import Derived.Test.Qxb6602190aKthClear
import Derived.Deep.Cut
namespace Go.Proofs.Qxb6602190a
open Go.RowKit

/-- What lies below the call's own memory is the register's still. -/
theorem RegIs.below {w w' : World} {B rb n T : Nat} {v : Value} {cbs : List Nat} {sh : Nat → Int} (h : RegIs w B rb v cbs sh n T) (hb : Below w.heap.size w w') : RegIs w' B rb v cbs sh n T := by
  have hh : ∀ (b : Nat) (o : Obj), w.heap[b]? = some o → w'.heap[b]? = some o := fun b o e => (hb.block b (lt_of_heap e)).trans e
  refine ⟨hh _ _ h.reg, h.base, own_keep h.own (fun g C _ e => hh _ _ e), h.many, h.room, fun q b hq => ?_, fun b hq => ?_, h.apart⟩
  · obtain ⟨h1, C, a, m, c, h2, h3⟩ := h.chunk q b hq
    exact ⟨h1, C, a, m, c, hh _ _ h2, h3⟩
  · obtain ⟨C, m, h1, h2⟩ := h.last b hq
    obtain ⟨v1, bs, h3, h4⟩ := h1.buf
    exact ⟨C, m, ⟨hh _ _ h1.heap, h1.size, h1.addr, v1, bs, h3, own_keep h4 (fun g C _ e => hh _ _ e)⟩, h2⟩

theorem atD_succ (s : Nat → Nat) (i f W V d : Nat) : atD s (i + 1) f W V d = atD s i f W V d + (if decide (s i / W = f) && decide (s i / V % 65536 = d) then 1 else 0) := rfl

def KthPost (s : Nat → Nat) (n k : Nat) (w : World) (e : Ending) (w' : World) : Prop :=
  ∃ v : Nat, e = .returned (.int .i64 (v : Int)) ∧ IsKth s n k v ∧ Below w.heap.size w w'

/-- Ahead of a round of the outer loop: m rounds are left. -/
def KRel (s : Nat → Nat) (n k : Nat) (w : World) (s1 s5 s7 : Value) (wr : World) : Prop :=
  ∃ m f k' : Nat, m ≤ 4 ∧ s7 = .int .i64 (16 * (m : Int) - 16) ∧ s5 = .int .u64 ((f * 2 ^ (16 * m) : Nat) : Int) ∧ s1 = .int .i64 (k' : Int) ∧ KSt s n k f (2 ^ (16 * m)) k' ∧ (∃ g, wr.rowIs w.heap.size 3 65536 g) ∧ Below w.heap.size w wr

/-- The prefix found is that of some share. -/
theorem KSt.some {s : Nat → Nat} {n k f W k' : Nat} (h : KSt s n k f W k') : ∃ i, i < n ∧ s i / W = f := by
  have h1 := h.pos
  have h2 := h.le
  obtain ⟨i, hi, hp⟩ := cnt_pos (show 0 < eqW s n f W by omega)
  exact ⟨i, hi, of_decide_eq_true hp⟩
theorem KSt.small {s : Nat → Nat} {n k f W k' : Nat} (h : KSt s n k f W k') (hs : ∀ i, i < n → s i < 9223372036854775808) : f * W < 9223372036854775808 := by
  obtain ⟨i, hi, rfl⟩ := h.some
  exact Nat.lt_of_le_of_lt (Nat.div_mul_le_self _ _) (hs i hi)

set_option maxHeartbeats 2000000 in
set_option maxRecDepth 100000 in
theorem kth_any (B rb n T k : Nat) (v : Value) (cbs : List Nat) (s : Nat → Nat) (w : World) (hr : RegIs w B rb v cbs (fun i => (s i : Int)) n T) (hn : n ≤ 131072) (hs : ∀ i, i < n → s i < 9223372036854775808) (hk1 : 1 ≤ k) (hk2 : k ≤ n) :
    Calls Try.prog 16 #[.pointer (some ⟨rb, 0, none⟩), .int .i64 k] w (KthPost s n k w) := by
  have hmk : ∀ w : World, (Instr.makeSlice 55 (.int .i64 65536) (.int .i64 65536)).run Try.prog w = .ok (.slice (some ⟨w.heap.size, 0, none⟩) 65536 65536) (w.alloc (.cells (madeCells #[.int .i64 0] 65536) 3)) := run_make_row' (P := Try.prog) 55 3 (.int .i64 0) 8 Try.underlying55 Try.info3 rfl .i64 .i64 65536 (by omega) (by omega)
  go_enter Try.func16, Try.ntmps16
  go_wp2
  go_loopw [1, 5, 7] (fun s1 s5 s7 wr => KRel s n k w s1 s5 s7 wr) (fun _ _ s7 _ => (intOf s7 + 16).toNat)
  case atStart =>
    refine ⟨4, 0, k, Nat.le_refl _, rfl, rfl, rfl, KSt.start (fun i hi => by have := hs i hi; omega) hk1 hk2, ⟨_, World.rowIs_made w _ 65536 3⟩, (Below.refl _ _).alloc (Nat.le_refl _) _⟩
  case round =>
    obtain ⟨m, f, k', hm, rfl, rfl, rfl, hst, ⟨g, hrow⟩, hbel⟩ := hrel
    by_cases hm0 : m = 0
    · subst hm0
      have hst1 : KSt s n k f 1 k' := hst
      have hf : (f : Int) < 9223372036854775808 := by have := hst1.small hs; omega
      clear hs
      go_wp2
      go_ret
      exact ⟨f, rfl, hst1.done, hbel⟩
    · obtain ⟨q, rfl⟩ : ∃ q, m = q + 1 := ⟨m - 1, by omega⟩
      obtain ⟨sg, hsg⟩ : ∃ sg : Nat, sg = 16 * q := ⟨_, rfl⟩
      obtain ⟨V, hV⟩ : ∃ V : Nat, V = 2 ^ sg := ⟨_, rfl⟩
      have hW : 2 ^ (16 * (q + 1)) = V * 65536 := by rw [hV, hsg, Nat.mul_add, Nat.pow_add]
      have hVp : 0 < V := by rw [hV]; exact Nat.two_pow_pos _
      rw [hW] at hst
      have h7 : (16 * ((q + 1 : Nat) : Int) - 16) = (sg : Int) := by omega
      obtain ⟨fv, hfv⟩ : ∃ fv : Nat, fv = f * (V * 65536) := ⟨_, rfl⟩
      have hfl : fv < 9223372036854775808 := by rw [hfv]; exact hst.small hs
      rw [h7, hW, ← hfv]
      have hsg48 : sg ≤ 48 := by omega
      obtain ⟨A, hA⟩ : ∃ A : Nat, A = 2 ^ 64 - 2 ^ (sg + 16) := ⟨_, rfl⟩
      have hshl : ∀ W : World, (binOp .shl 54 (.int .u64 18446744073709551615) (.int .i64 ((sg : Int) + 16))).run Try.prog W = .ok (.int .u64 (A : Int)) W := fun W => by
        have := shl_ones (sg + 16) (by omega) W
        rw [← hA] at this
        exact this
      have hA' : IntKind.u64.wrap (18446744073709551615 * 2 ^ (sg + 16)) = (A : Int) := by
        have h16 : sg + 16 = 16 ∨ sg + 16 = 32 ∨ sg + 16 = 48 ∨ sg + 16 = 64 := by omega
        rw [hA]
        rcases h16 with h | h | h | h <;> rw [h] <;> simp [IntKind.wrap, IntKind.bits, IntKind.signed]
      obtain ⟨wcl, hcl, hrow0, hkc⟩ := run_clear w.heap.size 65536 0 (by omega) g wr hrow
      have hq : Hid (sg = 16 * q ∧ V = 2 ^ sg ∧ fv = f * (V * 65536) ∧ A = 2 ^ 64 - 2 ^ (sg + 16)) := ⟨hsg, hV, hfv, hA⟩
      have hbc : Below w.heap.size w wcl := hbel.trans (hkc.below (fun k e => by omega) hbel.size)
      have hr0 := hr.below hbc
      have H13 := len_reg B rb n T v cbs (fun i => (s i : Int)) wcl hr0
      clear hsg hV hW h7 hfv hA hm
      go_wp2_with (go_at_call 13; refine H13.mono ?_; rintro e w2 ⟨rfl, hw2⟩; obtain rfl := hw2.symm; clear hw2)
      clear hcl hrow hkc hbel hshl hmk hm0 hA'
      go_loopw [23] (fun s23 wx => ∃ i : Nat, i ≤ n ∧ s23 = .int .i64 i ∧ wx.rowIs w.heap.size 3 65536 (fun d => .int .i64 (atD s i f (V * 65536) V d : Nat)) ∧ Below w.heap.size w wx) (fun s23 _ => n - (intOf s23).toNat)
      case atStart => exact ⟨0, Nat.zero_le _, rfl, hrow0.congr (fun d _ => by simp [atD, cnt]), hbc⟩
      case round =>
        clear hrow0 hbc H13 hr0
        obtain ⟨i, hi, rfl, hrow, hbel⟩ := hrel
        by_cases hin : i < n
        · have hr1 := hr.below hbel
          have H15 := shares_reg B rb n T i v cbs (fun i => (s i : Int)) wr hr1 hin hn
          obtain ⟨x, hx⟩ : ∃ x : Nat, s i = x := ⟨_, rfl⟩
          have hxl : x < 9223372036854775808 := by rw [← hx]; exact hs i hin
          simp only [hx] at H15
          obtain ⟨fx, hfx⟩ : ∃ fx : Nat, fx = x / (V * 65536) * (V * 65536) := ⟨_, rfl⟩
          obtain ⟨y, hy⟩ : ∃ y : Nat, y = x / V := ⟨_, rfl⟩
          obtain ⟨dg, hdg⟩ : ∃ dg : Nat, dg = y % 65536 := ⟨_, rfl⟩
          have hyl : y < 9223372036854775808 := by rw [hy]; exact Nat.lt_of_le_of_lt (Nat.div_le_self _ _) hxl
          have hdl : dg < 65536 := by omega
          have hand : bits .and .u64 (x : Int) (A : Int) = (fx : Int) := by
            obtain ⟨h1, h2, h3, h4⟩ := hq.out
            rw [(bits_nat .u64 64 (by decide) wraps_u64 x A (by omega) (by rw [h4]; have : 0 < 2 ^ (sg + 16) := Nat.two_pow_pos _; omega)).1, h4, and_high x (sg + 16) (by omega) (by omega), show 2 ^ (sg + 16) = V * 65536 by rw [h2, Nat.pow_add], ← hfx]
          have hshr : (x : Int) / 2 ^ sg = (y : Int) := by
            obtain ⟨h1, h2, h3, h4⟩ := hq.out
            rw [hy, h2]
            simp
          have hlow : bits .and .u64 (y : Int) 65535 = (dg : Int) := by
            have h := (bits_nat .u64 64 (by decide) wraps_u64 y 65535 (by omega) (by decide)).1
            rw [show (65535 : Nat) = 2 ^ 16 - 1 by decide, Nat.and_two_pow_sub_one_eq_mod] at h
            rw [hdg]
            exact h
          have hxe : Hid (s i = x ∧ fx = x / (V * 65536) * (V * 65536) ∧ y = x / V ∧ dg = y % 65536) := ⟨hx, hfx, hy, hdg⟩
          clear hx hfx hy hdg
          by_cases hmt : fx = fv
          · have hmb : ((fx : Int) == (fv : Int)) = true := by simp [hmt]
            have hc0 : wr.cell? ⟨w.heap.size, dg, none⟩ = some (.int .i64 (atD s i f (V * 65536) V dg : Nat)) := hrow.cell hdl
            have hf0 := hrow.frozen dg
            have hal : atD s i f (V * 65536) V dg ≤ i := cnt_bound _ _
            obtain ⟨ad, had⟩ : ∃ ad : Nat, atD s i f (V * 65536) V dg = ad := ⟨_, rfl⟩
            rw [had] at hc0 hal
            have hadq : Hid (atD s i f (V * 65536) V dg = ad) := had
            have hmq : Hid (fx = fv) := hmt
            clear had hmt
            go_upto_region 13 with (go_at_call 15; refine H15.mono ?_; rintro e w2 ⟨rfl, hw2⟩; obtain rfl := hw2.symm; clear hw2)
            go_wp2
            go_roundw
            case rel =>
              obtain ⟨h1, h2, h3, h4⟩ := hxe.out
              obtain ⟨_, _, h7, _⟩ := hq.out
              have hW0 : 0 < V * 65536 := by omega
              have hxf : s i / (V * 65536) = f := by
                have e := hmq.out
                rw [h2, h7] at e
                rw [h1]
                exact Nat.eq_of_mul_eq_mul_right hW0 e
              have hdd : s i / V % 65536 = dg := by rw [h1, h4, h3]
              refine ⟨i + 1, by omega, by go_num, (hrow.set dg _).congr (fun d _ => ?_), hbel.setCell (Nat.le_refl _) _⟩
              by_cases e : d = dg
              · subst e
                rw [if_pos rfl, atD_succ, hadq.out]
                simp [hxf, hdd]
              · rw [if_neg e, atD_succ]
                have : ¬ s i / V % 65536 = d := fun h => e (h.symm.trans hdd)
                simp [this]
            case measure => simp [intOf]; omega
          · have hmb : ((fx : Int) == (fv : Int)) = false := beq_eq_false_iff_ne.2 (by omega)
            have hmq : Hid (fx ≠ fv) := hmt
            clear hmt
            go_wp2_with (go_at_call 15; refine H15.mono ?_; rintro e w2 ⟨rfl, hw2⟩; obtain rfl := hw2.symm; clear hw2)
            go_roundw
            case rel =>
              obtain ⟨h1, h2, h3, h4⟩ := hxe.out
              obtain ⟨_, _, h7, _⟩ := hq.out
              have hxf : ¬ s i / (V * 65536) = f := fun e => hmq.out (by rw [h2, h7, ← h1, e])
              refine ⟨i + 1, by omega, by go_num, hrow.congr (fun d _ => ?_), hbel⟩
              rw [atD_succ]
              simp [hxf]
            case measure => simp [intOf]; omega
        · obtain rfl : i = n := by omega
          go_wp2_with fail
          go_loop [1, 11] (fun s1 s11 => ∃ d k2 : Nat, d < 65536 ∧ s11 = .int .i64 (d : Int) ∧ s1 = .int .i64 (k2 : Int) ∧ k2 + hiD s i f (V * 65536) V d = k' ∧ 1 ≤ k2) (fun _ s11 => (intOf s11).toNat)
          case atStart => exact ⟨65535, k', by omega, rfl, rfl, by rw [hi_top, Nat.add_zero], hst.pos⟩
          case round =>
            obtain ⟨d, k2, hd, rfl, rfl, hsum, hk2p⟩ := hrel
            have hc0 : wr.cell? ⟨w.heap.size, d, none⟩ = some (.int .i64 (atD s i f (V * 65536) V d : Nat)) := hrow.cell hd
            have hal : atD s i f (V * 65536) V d ≤ i := cnt_bound _ _
            have hkn : k' ≤ i := Nat.le_trans hst.le (cnt_bound _ _)
            obtain ⟨ad, had⟩ : ∃ ad : Nat, atD s i f (V * 65536) V d = ad := ⟨_, rfl⟩
            rw [had] at hc0 hal
            have hadq : Hid (atD s i f (V * 65536) V d = ad) := had
            have hsq : Hid (k2 + hiD s i f (V * 65536) V d = k') := hsum
            have hk2n : k2 ≤ i := by omega
            clear had hsum
            by_cases hgt : ad < k2
            · have hd0 : 0 < d := by
                rcases Nat.eq_zero_or_pos d with rfl | h
                · exfalso
                  have h1 := hi_all s i f (V * 65536) V
                  have h2 := hst.le
                  have h3 := hadq.out
                  have h4 := hsq.out
                  omega
                · exact h
              have hgb : decide ((ad : Int) < (k2 : Int)) = true := decide_eq_true (by omega)
              go_wp2
              go_round
              case rel =>
                have h1 := hi_next s i f (V * 65536) V (d - 1)
                rw [show d - 1 + 1 = d by omega, hadq.out] at h1
                have h2 := hsq.out
                exact ⟨d - 1, k2 - ad, by omega, congrArg (Value.int .i64) (by omega), congrArg (Value.int .i64) (by omega), by omega, by omega⟩
              case measure => simp [intOf]; omega
            · have hgb : decide ((ad : Int) < (k2 : Int)) = false := decide_eq_false (by omega)
              obtain ⟨nf, hnf⟩ : ∃ nf : Nat, nf = (f * 65536 + d) * V := ⟨_, rfl⟩
              have hVl : V ≤ 281474976710656 := by
                rw [hq.out.2.1]
                exact Nat.pow_le_pow_right (n := 2) (by decide) hsg48
              have hdV : d * V < 18446744073709551616 := by
                have : d * V ≤ 65535 * 281474976710656 := Nat.mul_le_mul (by omega) hVl
                omega
              have hsl : IntKind.u64.wrap ((d : Int) * 2 ^ sg) = ((d * V : Nat) : Int) := by
                have h1 : ((d : Int) * 2 ^ sg) = ((d * V : Nat) : Int) := by rw [hq.out.2.1]; simp
                rw [h1]
                exact wraps_u64 _ (Int.natCast_nonneg _) (by omega)
              have hor : bits .or .u64 (fv : Int) ((d * V : Nat) : Int) = (nf : Int) := by
                rw [(bits_nat .u64 64 (by decide) wraps_u64 fv (d * V) (by omega) (by omega)).2, hq.out.2.2.1, or_join f d V sg hq.out.2.1 hd, ← hnf]
              obtain ⟨dV, hdVe⟩ : ∃ dV : Nat, d * V = dV := ⟨_, rfl⟩
              rw [hdVe] at hsl hor
              have hnq : Hid (nf = (f * 65536 + d) * V) := hnf
              clear hdV hnf hdVe
              go_wp2
              go_roundw
              case rel =>
                obtain ⟨h1, h2, h3, h4⟩ := hq.out
                have hVq : 2 ^ (16 * q) = V := by rw [h2, h1]
                refine ⟨q, f * 65536 + d, k2, by omega, congrArg (Value.int .i64) (by omega), by rw [hVq, ← hnq.out], rfl, ?_, ⟨_, hrow⟩, hbel⟩
                rw [hVq]
                exact hst.next hd hsq.out hk2p (by rw [hadq.out]; omega)
              case measure =>
                have h1 := hq.out.1
                simp [intOf]
                omega
end Go.Proofs.Qxb6602190a
