/-
  Seat b6602190a: FnRegisterAddKeepsEveryHolder (function 5): the walk.
-/
import Derived.Test.Qxb6602190aRegAdd
import Derived.Test.Qxb6602190aHold
import Derived.Deep.RegionHeld3
namespace Go.Proofs.Qxb6602190a
open Go.RowKit

def tot (cs : Nat → ByteArray) : Nat → Nat
  | 0 => 0
  | j + 1 => tot cs j + (cs j).size

theorem tot_le (cs : Nat → ByteArray) {i j : Nat} (h : i ≤ j) : tot cs i ≤ tot cs j := by
  induction h with
  | refl => exact Nat.le_refl _
  | step _ ih => exact Nat.le_trans ih (Nat.le_add_right _ _)

/-- The empty register. -/
theorem reg_new (w : World) (sh : Nat → Int) : RegAt (w.alloc (.cells #[.slice none 0 0, .int .i64 0] 36)) (w.alloc (.cells #[.slice none 0 0, .int .i64 0] 36)) w.heap.size w.heap.size sh 0 0 :=
  ⟨.slice none 0 0, [], ⟨heap_alloc_new w _, Nat.le_refl _, World.ownsRow_nil _ _ _ _, by simp, by simp, fun q b h => by simp at h, fun b h => by simp at h, fun q1 q2 b h => by simp at h⟩, by simp, Kept.refl _ _⟩

theorem RegIs.drew {w : World} {B rb n T : Nat} {v : Value} {cbs : List Nat} {sh : Nat → Int} (h : RegIs w B rb v cbs sh n T) : RegIs w.drew B rb v cbs sh n T :=
  ⟨h.reg, h.base, h.own, h.many, h.room, h.chunk, fun b hb => by obtain ⟨C, m, h1, h2⟩ := h.last b hb; exact ⟨C, m, ⟨h1.heap, h1.size, h1.addr, h1.buf⟩, h2⟩, h.apart⟩

theorem RegIs.same {w w' : World} {B rb n T : Nat} {v : Value} {cbs : List Nat} {sh : Nat → Int} (h : RegIs w B rb v cbs sh n T) (e : w'.heap = w.heap) : RegIs w' B rb v cbs sh n T := by
  refine ⟨by rw [e]; exact h.reg, h.base, own_keep h.own (fun g C _ hh => by rw [e]; exact hh), h.many, h.room, by rw [e]; exact h.chunk, fun b hb => ?_, h.apart⟩
  obtain ⟨C, m, h1, h2⟩ := h.last b hb
  obtain ⟨v1, bs, h3, h4⟩ := h1.buf
  exact ⟨C, m, ⟨by rw [e]; exact h1.heap, h1.size, h1.addr, v1, bs, h3, own_keep h4 (fun g C _ hh => by rw [e]; exact hh)⟩, h2⟩

def SameW (w w' : World) : Prop := w'.heap = w.heap ∧ w'.os = w.os ∧ w'.tape = w.tape ∧ w'.output = w.output

/-- Add, at a register of the first k of the shares. -/
theorem add_next (B rb k T : Nat) (v : Value) (cbs : List Nat) (ss : Nat → Int) (s : ByteArray) (y : Int) (w : World) (h : RegIs w B rb v cbs ss k T) (hlt : cbs.length * 4096 < k + 4096) (hn : k < 131072) (hT : T + s.size ≤ 1048576) (hB : B ≤ w.heap.size) :
    Calls Try.prog 14 #[.pointer (some ⟨rb, 0, none⟩), .string s, .int .i64 (ss k), .int .i64 y] w fun e w' => e = .returned (.tuple #[]) ∧ RegAt w w' B rb ss (k + 1) (T + s.size) := by
  refine (add_any B rb k T v cbs ss s (ss k) y w h hlt hn hT hB).mono ?_
  rintro e w' ⟨rfl, hr⟩
  have : (fun i => if i = k then ss k else ss i) = ss := by funext i; split <;> simp_all
  rw [this] at hr
  exact ⟨rfl, hr⟩

theorem shares_at (B rb n T i : Nat) (x : Int) (v : Value) (cbs : List Nat) (sh : Nat → Int) (w : World) (h : RegIs w B rb v cbs sh n T) (hi : i < n) (hn : n ≤ 131072) (hx : x = (i : Int)) :
    Calls Try.prog 15 #[.pointer (some ⟨rb, 0, none⟩), .int .i64 x] w fun e w' => e = .returned (.int .i64 (sh i)) ∧ w' = w := by
  subst hx
  exact shares_reg B rb n T i v cbs sh w h hi hn

/-- No holder at all. -/
theorem reg_walk0 (a : Option Addr) (cap : Nat) (w : World) :
    Calls Try.prog 5 #[.slice a 0 cap] w fun e w' => e = .returned (.bool true) ∧ Below w.heap.size w w' := by
  have H11 := bytes11_any a cap 0 (fun _ => ByteArray.empty) (fun _ => 0) (fun _ => 0) w (Nat.zero_le _) (.inl rfl) (fun i h => by omega)
  have H12 := clone12_any a cap 0 (fun _ => ByteArray.empty) (fun _ => 0) (fun _ => 0) w (Nat.zero_le _) (.inl rfl)
  go_enter Try.func5, Try.ntmps5
  go_wp2_with (go_at_call 11; refine H11.mono ?_; rintro e w' ⟨r, rfl, hw, hsm⟩; obtain rfl := hw.symm; cases r)
  · go_ret
    exact ⟨rfl, Below.refl _ _⟩
  refine wp_loop_rounds 1 ?_
  rw [rounds_succ]
  go_wp2_with (first
    | (go_at_call 12; refine H12.mono ?_; rintro e w1 ⟨a', cap', rfl, _, hb1⟩; obtain ⟨v0, cbs0, hr0, _, _⟩ := reg_new w1 (fun _ => 0))
    | (go_at_call 13; refine (len_reg w1.heap.size w1.heap.size 0 0 v0 cbs0 (fun _ => 0) _ hr0).mono ?_; rintro e w2 ⟨rfl, rfl⟩))
  refine wp_loop_rounds 1 ?_
  rw [rounds_succ]
  go_wp2
  refine wp_loop_rounds 1 ?_
  rw [rounds_succ]
  go_wp2_with (go_at_call 13; refine (len_reg w1.heap.size w1.heap.size 0 0 v0 cbs0 (fun _ => 0) _ hr0).mono ?_; rintro e w2 ⟨rfl, rfl⟩)
  go_ret
  exact ⟨rfl, hb1.alloc hb1.size _⟩

set_option maxHeartbeats 4000000 in
set_option maxRecDepth 100000 in
theorem reg_walk1 (b off cap n : Nat) (cs : Nat → ByteArray) (ss tt : Nat → Int) (w : World) (hpos : 0 < n) (hm : n ≤ maxLen) (hs : HoldAt w (some ⟨b, off, none⟩) n cs ss tt) (hsz : ∀ i, i < n → (cs i).size ≤ maxLen) :
    Calls Try.prog 5 #[.slice (some ⟨b, off, none⟩) n cap] w fun e w' => e = .returned (.bool true) ∧ Below w.heap.size w w' := by
  have H11 := bytes11_any _ cap n cs ss tt w hm hs hsz
  unfold maxLen at hm hsz
  by_cases hbig : 32768 < n
  · go_enter Try.func5, Try.ntmps5
    go_wp2_with (go_at_call 11; refine H11.mono ?_; rintro e w' ⟨r, rfl, hw, hsm⟩; obtain rfl := hw.symm; cases r)
    · go_ret
      exact ⟨rfl, Below.refl _ _⟩
    · go_ret
      exact ⟨rfl, Below.refl _ _⟩
    · go_ret
      exact ⟨rfl, Below.refl _ _⟩
  have hn : n ≤ 32768 := by omega
  have H12 := clone12_any _ cap n cs ss tt w (by omega) hs
  clear hbig hm
  rcases hs with rfl | ⟨b', off', hbe, hb, hc⟩
  · omega
  cases hbe
  go_enter Try.func5, Try.ntmps5
  go_wp2_with (go_at_call 11; refine H11.mono ?_; rintro e w' ⟨r, rfl, hw, hsm⟩; obtain rfl := hw.symm; cases r)
  · go_ret
    exact ⟨rfl, Below.refl _ _⟩
  have hsmall : ∀ i, i < n → (cs i).size ≤ 1048576 := hsm rfl
  clear hsm hsz
  go_loop [3, 4] (fun t i => ∃ (j : Nat), j ≤ n ∧ i = .int .i64 j ∧ t = .int .i64 (n * 32 + tot cs j : Nat) ∧ n * 32 + tot cs j ≤ 1048576) (fun _ i => n - (intOf i).toNat)
  case atStart => exact ⟨0, Nat.zero_le _, rfl, by simp [tot], by simp [tot]; omega⟩
  case round =>
    obtain ⟨j, hj, rfl, rfl, htot⟩ := hrel
    have hcell : j < n → w.cell? ⟨b, off + j * 3, none⟩ = some (.string (cs j)) := fun h => (hc j h).1
    have hsj := hsmall j
    clear hc hsmall
    obtain ⟨z, hz⟩ : ∃ z, n * 32 + tot cs j = z := ⟨_, rfl⟩
    rw [hz] at htot ⊢
    have hzq : Hid (n * 32 + tot cs j = z) := hz
    clear hz
    go_wp2_with (first
      | (go_at_call 12; refine H12.mono ?_; rintro e w1 ⟨a', cap', rfl, hs1, hb1⟩; have hrg := reg_new w1 ss; obtain ⟨v0, cbs0, hr0, hl0, hk0⟩ := reg_new w1 ss; have H13 := len_reg w1.heap.size w1.heap.size 0 0 v0 cbs0 ss _ hr0; clear hr0 hl0 hk0)
      | (go_at_call 13; refine H13.mono ?_; rintro e w2 ⟨rfl, rfl⟩))
    · go_ret
      exact ⟨rfl, Below.refl _ _⟩
    · go_round
      case rel =>
        have hz := hzq.out
        have ht : tot cs (j + 1) = tot cs j + (cs j).size := rfl
        exact ⟨j + 1, by omega, by go_num, by go_num, by omega⟩
      case measure => simp [intOf]; omega
    · obtain rfl : j = n := by omega
      rcases hs1 with rfl | ⟨b', off', rfl, hb', hc'⟩
      · omega
      have hzn := hzq.out
      clear H13 H12 H11 hcell hsj
      have hl3 : w1.heap.size < (w1.alloc (.cells #[.slice none 0 0, .int .i64 0] 36)).heap.size := by simp
      go_loopw [6] (fun i wr => ∃ k : Nat, k ≤ j ∧ i = .int .i64 k ∧ RegAt (w1.alloc (.cells #[.slice none 0 0, .int .i64 0] 36)) wr w1.heap.size w1.heap.size ss k (tot cs k)) (fun i _ => j - (intOf i).toNat)
      case atStart => exact ⟨0, Nat.zero_le _, rfl, hrg⟩
      case round =>
        clear hrg
        obtain ⟨k, hk, rfl, v, cbs, hr, hlt, hkp⟩ := hrel
        have hmono : tot cs k ≤ tot cs j := tot_le cs hk
        have hBr : w1.heap.size ≤ wr.heap.size := by have := hkp.size; omega
        by_cases hkj : k < j
        · have ht : tot cs (k + 1) = tot cs k + (cs k).size := rfl
          have ht2 : tot cs (k + 1) ≤ tot cs j := tot_le cs hkj
          have oldc : ∀ o, wr.cell? ⟨b', o, none⟩ = w1.cell? ⟨b', o, none⟩ := fun o => (hkp.cell (a := ⟨b', o, none⟩) (by show b' < _; omega) (by show ¬ w1.heap.size ≤ b'; omega)).trans (World.cell?_alloc_old _ _ _ (by show b' ≠ _; omega))
          have e0 : wr.cell? ⟨b', off' + k * 3, none⟩ = some (.string (cs k)) := (oldc _).trans (hc' k hkj).1
          have e1 : wr.cell? ⟨b', off' + k * 3 + 1, none⟩ = some (.int .i64 (ss k)) := (oldc _).trans (hc' k hkj).2.1
          have e2 : wr.cell? ⟨b', off' + k * 3 + 2, none⟩ = some (.int .i64 (tt k)) := (oldc _).trans (hc' k hkj).2.2
          have H14 := add_next w1.heap.size w1.heap.size k (tot cs k) v cbs ss (cs k) (tt k) wr.drew hr.drew hlt (by omega) (by omega) hBr
          have hdi : decide ((k : Int) < (j : Int)) = true := decide_eq_true (by omega)
          have oldq : Hid (∀ o, wr.cell? ⟨b', o, none⟩ = w1.cell? ⟨b', o, none⟩) := oldc
          have cq : Hid (∀ i, i < j → w1.cell? ⟨b', off' + i * 3 + 1, none⟩ = some (.int .i64 (ss i))) := fun i hi => (hc' i hi).2.1
          have tq : Hid (tot cs (k + 1) = tot cs k + (cs k).size) := ht
          clear hc' oldc ht
          go_wp2_with fail
          go_region_held3 (fun w' => w'.cell? ⟨b', off' + k * 3, none⟩ = some (.string (cs k)) ∧ w'.cell? ⟨b', off' + k * 3 + 1, none⟩ = some (.int .i64 (ss k)) ∧ w'.cell? ⟨b', off' + k * 3 + 2, none⟩ = some (.int .i64 (tt k))) (first | exact ⟨e0, e1, e2⟩ | exact ⟨g0, g1, g2⟩) (first | (go_at_call 14; refine H14.mono ?_; rintro e w3 ⟨rfl, hrg3⟩; obtain ⟨v3, cbs3, hr3, hlt3, hk3⟩ := hrg3; have o3 : ∀ o, w3.cell? ⟨b', o, none⟩ = wr.cell? ⟨b', o, none⟩ := (fun o => hk3.cell (a := ⟨b', o, none⟩) (show b' < wr.heap.size by omega) (show ¬ w1.heap.size ≤ b' by omega)); have g0 := (o3 _).trans e0; have g1 := (o3 _).trans e1; have g2 := (o3 _).trans e2; have o3q : Hid (∀ o, w3.cell? ⟨b', o, none⟩ = wr.cell? ⟨b', o, none⟩) := o3; clear o3))
          have HL := len_reg w1.heap.size w1.heap.size (k + 1) (tot cs k + (cs k).size) v3 cbs3 ss w3 hr3
          have HS : ∀ (W : World) (i : Nat) (x : Int), W.heap = w3.heap → i < k + 1 → x = (i : Int) → Calls Try.prog 15 #[.pointer (some ⟨w1.heap.size, 0, none⟩), .int .i64 x] W fun e w' => e = .returned (.int .i64 (ss i)) ∧ w' = W := fun W i x hW hi hx => shares_at w1.heap.size w1.heap.size (k + 1) (tot cs k + (cs k).size) i x v3 cbs3 ss W (hr3.same hW) hi (by omega) hx
          have HS0 : ∀ W : World, W.heap = w3.heap → Calls Try.prog 15 #[.pointer (some ⟨w1.heap.size, 0, none⟩), .int .i64 (k : Int)] W fun e w' => e = .returned (.int .i64 (ss k)) ∧ w' = W := fun W hW => HS W k k hW (by omega) rfl
          have hHS : Hid (∀ (W : World) (i : Nat) (x : Int), W.heap = w3.heap → i < k + 1 → x = (i : Int) → Calls Try.prog 15 #[.pointer (some ⟨w1.heap.size, 0, none⟩), .int .i64 x] W fun e w' => e = .returned (.int .i64 (ss i)) ∧ w' = W) := HS
          clear HS H14 e0 e1 e2
          go_wp2_with (go_at_call 13; refine HL.mono ?_; rintro e w4 ⟨rfl, hw4⟩; obtain rfl := hw4.symm; clear hw4)
          go_quiet ((go_at_call 15; exact Calls.quiet_of_same (HS0 _ rfl)))
          go_wp2_with fail
          have hk23 : Kept (fun i => w1.heap.size ≤ i) (w1.alloc (.cells #[.slice none 0 0, .int .i64 0] 36)) w3 := hkp.drew.trans hk3 (fun _ _ e => e)
          by_cases h1 : 1 ≤ k
          · by_cases h2 : 4096 ≤ k
            · have hg1 : decide ((1 : Int) ≤ (k : Int)) = true := decide_eq_true (by omega)
              have hg2 : decide ((4096 : Int) ≤ (k : Int)) = true := decide_eq_true (by omega)
              have HSp : ∀ W : World, W.heap = w3.heap → Calls Try.prog 15 #[.pointer (some ⟨w1.heap.size, 0, none⟩), .int .i64 ((k : Int) - 1)] W fun e w' => e = .returned (.int .i64 (ss (k - 1))) ∧ w' = W := fun W hW => hHS.out W (k - 1) _ hW (by omega) (by omega)
              have gp : w3.cell? ⟨b', off' + (k - 1) * 3 + 1, none⟩ = some (.int .i64 (ss (k - 1))) := (o3q.out _).trans ((oldq.out _).trans (cq.out (k - 1) (by omega)))
              have htop : ((k : Int) - 1).toNat = k - 1 := by omega
              have hwrp : IntKind.i64.wrap ((k : Int) - 1) = (k : Int) - 1 := by rw [IntKind.wrap_i64]; omega
              have hlop : (0 : Int) ≤ (k : Int) - 1 := by omega
              have hhip : (k : Int) - 1 < (j : Int) := by omega
              have HSr : ∀ W : World, W.heap = w3.heap → Calls Try.prog 15 #[.pointer (some ⟨w1.heap.size, 0, none⟩), .int .i64 ((k : Int) - 4096)] W fun e w' => e = .returned (.int .i64 (ss (k - 4096))) ∧ w' = W := fun W hW => hHS.out W (k - 4096) _ hW (by omega) (by omega)
              have gr : w3.cell? ⟨b', off' + (k - 4096) * 3 + 1, none⟩ = some (.int .i64 (ss (k - 4096))) := (o3q.out _).trans ((oldq.out _).trans (cq.out (k - 4096) (by omega)))
              have htor : ((k : Int) - 4096).toNat = k - 4096 := by omega
              have hwrr : IntKind.i64.wrap ((k : Int) - 4096) = (k : Int) - 4096 := by rw [IntKind.wrap_i64]; omega
              have hlor : (0 : Int) ≤ (k : Int) - 4096 := by omega
              have hhir : (k : Int) - 4096 < (j : Int) := by omega
              go_quiet ((go_at_call 15; refine (HSp _ ?_).mono (fun _ _ h => ⟨h.1, _, h.2⟩); rfl))
              go_wp2_with fail
              go_quiet ((go_at_call 15; refine (HSr _ ?_).mono (fun _ _ h => ⟨h.1, _, h.2⟩); rfl))
              go_wp2_with fail
              go_roundw
              case rel => exact ⟨k + 1, by omega, by go_num, v3, cbs3, hr3.same rfl, hlt3, ⟨hk23.os, hk23.tape, hk23.output, hk23.size, hk23.block⟩⟩
              case measure => simp [intOf]; omega
            · have hg1 : decide ((1 : Int) ≤ (k : Int)) = true := decide_eq_true (by omega)
              have hg2 : decide ((4096 : Int) ≤ (k : Int)) = false := decide_eq_false (by omega)
              have HSp : ∀ W : World, W.heap = w3.heap → Calls Try.prog 15 #[.pointer (some ⟨w1.heap.size, 0, none⟩), .int .i64 ((k : Int) - 1)] W fun e w' => e = .returned (.int .i64 (ss (k - 1))) ∧ w' = W := fun W hW => hHS.out W (k - 1) _ hW (by omega) (by omega)
              have gp : w3.cell? ⟨b', off' + (k - 1) * 3 + 1, none⟩ = some (.int .i64 (ss (k - 1))) := (o3q.out _).trans ((oldq.out _).trans (cq.out (k - 1) (by omega)))
              have htop : ((k : Int) - 1).toNat = k - 1 := by omega
              have hwrp : IntKind.i64.wrap ((k : Int) - 1) = (k : Int) - 1 := by rw [IntKind.wrap_i64]; omega
              have hlop : (0 : Int) ≤ (k : Int) - 1 := by omega
              have hhip : (k : Int) - 1 < (j : Int) := by omega
              go_quiet ((go_at_call 15; refine (HSp _ ?_).mono (fun _ _ h => ⟨h.1, _, h.2⟩); rfl))
              go_wp2_with fail
              go_quiet (fail)
              go_wp2_with fail
              go_roundw
              case rel => exact ⟨k + 1, by omega, by go_num, v3, cbs3, hr3.same rfl, hlt3, ⟨hk23.os, hk23.tape, hk23.output, hk23.size, hk23.block⟩⟩
              case measure => simp [intOf]; omega
          · have hg1 : decide ((1 : Int) ≤ (k : Int)) = false := decide_eq_false (by omega)
            have hg2 : decide ((4096 : Int) ≤ (k : Int)) = false := decide_eq_false (by omega)
            go_quiet (fail)
            go_wp2_with fail
            go_quiet (fail)
            go_wp2_with fail
            go_roundw
            case rel => exact ⟨k + 1, by omega, by go_num, v3, cbs3, hr3.same rfl, hlt3, ⟨hk23.os, hk23.tape, hk23.output, hk23.size, hk23.block⟩⟩
            case measure => simp [intOf]; omega
        · obtain rfl : k = j := by omega
          have hkp' : Hid (Kept (fun i => w1.heap.size ≤ i) (w1.alloc (.cells #[.slice none 0 0, .int .i64 0] 36)) wr) := hkp
          have oldc : ∀ o, wr.cell? ⟨b', o, none⟩ = w1.cell? ⟨b', o, none⟩ := fun o => (hkp.cell (a := ⟨b', o, none⟩) (by show b' < _; omega) (by show ¬ w1.heap.size ≤ b'; omega)).trans (World.cell?_alloc_old _ _ _ (by show b' ≠ _; omega))
          have cq : Hid (∀ i, i < k → wr.cell? ⟨b', off' + i * 3 + 1, none⟩ = some (.int .i64 (ss i))) := fun i hi => (oldc _).trans (hc' i hi).2.1
          clear hc' oldc hkj
          go_wp2_with fail
          go_loopw [7] (fun i wx => ∃ q : Nat, q ≤ k ∧ i = .int .i64 q ∧ SameW wr wx) (fun i _ => k - (intOf i).toNat)
          case atStart => exact ⟨0, Nat.zero_le _, rfl, rfl, rfl, rfl, rfl⟩
          case round =>
            obtain ⟨q, hq, rfl, hsame⟩ := hrel
            have hr' := hr.same hsame.1
            have HL := len_reg w1.heap.size w1.heap.size k (tot cs k) v cbs ss wr hr'
            have hend : Hid (Below w.heap.size w wr) := by
              have h1 : Kept (fun i => w1.heap.size ≤ i) (w1.alloc (.cells #[.slice none 0 0, .int .i64 0] 36)) wr := ⟨hsame.2.1.trans hkp'.out.os, hsame.2.2.1.trans hkp'.out.tape, hsame.2.2.2.trans hkp'.out.output, by rw [hsame.1]; exact hkp'.out.size, by rw [hsame.1]; exact hkp'.out.block⟩
              exact (hb1.alloc hb1.size _).trans (h1.below (fun i hi => Nat.le_trans hb1.size hi) (Nat.le_trans hb1.size (Nat.le_of_lt hl3)))
            by_cases hqk : q < k
            · have g1 : wr.cell? ⟨b', off' + q * 3 + 1, none⟩ = some (.int .i64 (ss q)) := (World.cell?_of_block (by rw [hsame.1])).trans (cq.out q hqk)
              have HS0 : ∀ W : World, W.heap = wr.heap → Calls Try.prog 15 #[.pointer (some ⟨w1.heap.size, 0, none⟩), .int .i64 (q : Int)] W fun e w' => e = .returned (.int .i64 (ss q)) ∧ w' = W := fun W hW => shares_at w1.heap.size w1.heap.size k (tot cs k) q q v cbs ss W (hr'.same hW) hqk (by omega) rfl
              clear HL
              go_wp2_with fail
              go_quiet ((go_at_call 15; exact Calls.quiet_of_same (HS0 _ rfl)))
              go_wp2_with fail
              go_roundw
              case rel => exact ⟨q + 1, by omega, by go_num, hsame.1, hsame.2.1, hsame.2.2.1, hsame.2.2.2⟩
              case measure => simp [intOf]; omega
            · obtain rfl : q = k := by omega
              go_wp2_with (go_at_call 13; refine HL.mono ?_; rintro e w4 ⟨rfl, hw4⟩; obtain rfl := hw4.symm; clear hw4)
              go_ret
              exact ⟨by simp, hend.out⟩

theorem reg_walk (a : Option Addr) (cap n : Nat) (cs : Nat → ByteArray) (ss tt : Nat → Int) (w : World) (hm : n ≤ maxLen) (hs : HoldAt w a n cs ss tt) (hsz : ∀ i, i < n → (cs i).size ≤ maxLen) :
    Calls Try.prog 5 #[.slice a n cap] w fun e w' => e = .returned (.bool true) ∧ Below w.heap.size w w' := by
  rcases Nat.eq_zero_or_pos n with rfl | hpos
  · exact reg_walk0 a cap w
  · rcases hs with rfl | ⟨b, off, rfl, hb, hc⟩
    · omega
    · exact reg_walk1 b off cap n cs ss tt w hpos hm (.inr ⟨b, off, rfl, hb, hc⟩) hsz
end Go.Proofs.Qxb6602190a
