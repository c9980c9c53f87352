/-
  Seat b6601328a: the walk of 'FnSnowballKeepsPreferenceOnTop' (3).
-/
import Derived.Test.Qxb6601328aEarly
namespace Go.Proofs.Qxb6601328a
open Go.RowKit

/-- The law's own copy of the node, in a block of its own; all that was there is as it was. -/
def BoxAt (w wc : World) (b : Nat) (c0 c1 st po fl v0 v1 da ins ip sc : Int) (d : Bool) : Prop :=
  NodeAt wc b c0 c1 st po fl v0 v1 da ins ip sc d ∧ Below w.heap.size w wc

theorem NodeAt.drewN {w : World} {b : Nat} {c0 c1 st po fl v0 v1 da ins ip sc : Int} {d : Bool} (h : NodeAt w b c0 c1 st po fl v0 v1 da ins ip sc d) (n : Nat) : NodeAt (w.drewN n) b c0 c1 st po fl v0 v1 da ins ip sc d :=
  ⟨h.lt, h.k0, h.k1, h.k2, h.k3, h.k4, h.k5, h.k6, h.k7, h.k8, h.k9, h.k10, h.k11⟩

theorem BoxAt.drewN {w wc : World} {b : Nat} {c0 c1 st po fl v0 v1 da ins ip sc : Int} {d : Bool} (h : BoxAt w wc b c0 c1 st po fl v0 v1 da ins ip sc d) (n : Nat) : BoxAt w (wc.drewN n) b c0 c1 st po fl v0 v1 da ins ip sc d :=
  ⟨h.1.drewN n, ⟨h.2.os, h.2.tape, h.2.output, h.2.size, h.2.block⟩⟩

theorem box_new (c0 c1 st po fl v0 v1 da ins ip sc : Int) (d : Bool) (w : World) : BoxAt w (w.alloc (.cells (node c0 c1 st po fl v0 v1 da ins ip sc d) 25)) w.heap.size c0 c1 st po fl v0 v1 da ins ip sc d :=
  ⟨NodeAt.of_heap (heap_alloc_new w _), (Below.refl _ _).alloc (Nat.le_refl _) _⟩

theorem pre_of {c0 c1 st sc p : Int} (hp : p = 0 ∨ p = 1) (h3 : 0 ≤ c0) (h4 : 0 ≤ c1) (h5 : c0 < 9223372036854775807) (h6 : c1 < 9223372036854775807) (hsc : 0 ≤ sc) (htop : ¬ conf c0 c1 p < conf c0 c1 (1 - p)) (hst : ¬ st < 0) (hbad : ¬ (0 < st ∧ (1 < sc ∨ conf c0 c1 sc < st))) : Pre c0 c1 st sc p :=
  ⟨hp, h3, h5, h4, h6, by omega, by omega, fun e => ⟨by have : ¬ 1 < sc := fun h => hbad ⟨e, .inl h⟩; omega, by have : ¬ conf c0 c1 sc < st := fun h => hbad ⟨e, .inr h⟩; omega⟩⟩

/-- The sums are alike, wrapped or not. -/
theorem sum_ok {c0 c1 d0 d1 g : Int} (h : d0 + d1 = c0 + c1 + g) : (wrap64 (d0 + d1) == wrap64 (wrap64 (c0 + c1) + g)) = true := by
  rw [h, beq_iff_eq]
  unfold wrap64
  omega

/-- snowball's call, in the world that the law makes: the node in the third new block, the preference in the fourth. -/
theorem snow5_at (c0 c1 st po fl v0 v1 da ins ip sc : Int) (d : Bool) (p c beta : Int) (succ : Bool) (wc w1 : World) (z1 : w1.heap.size = wc.heap.size + 3) (g1 : w1.heap[wc.heap.size + 2]? = some (.cells (node c0 c1 st po fl v0 v1 da ins ip sc d) 37 (0, 0)))
    (hpre : Pre c0 c1 st sc p) (hc : succ = true → c = 0 ∨ c = 1) :
    Calls Try.prog 5 #[.pointer (some ⟨wc.heap.size + 2, 0, none⟩), .pointer (some ⟨wc.heap.size + 3, 0, none⟩), .int .u8 c, .bool succ, .int .i64 beta] (w1.alloc (.cells #[.int .u8 p] 28)) (SnowPost (wc.heap.size + 2) (wc.heap.size + 3) c0 c1 po fl v0 v1 da ins ip p succ (w1.alloc (.cells #[.int .u8 p] 28))) := by
  refine snow5_any (wc.heap.size + 2) (wc.heap.size + 3) c0 c1 st po fl v0 v1 da ins ip sc c p beta d succ _ ?_ ?_ (by omega) hpre hc
  · exact (Below.heap_alloc w1 _ _ (by omega)).trans g1
  · have := heap_alloc_new w1 (.cells #[.int .u8 p] 28)
    rwa [z1] at this

/-- Behind the reads: the law's second copy of the node, the preference; all that was there is as it was. -/
theorem box_mid (d0 d1 st po fl v0 v1 da ins ip sc : Int) (d : Bool) {c0 c1 s0 q0 q1 q2 q3 q4 q5 q6 q7 : Int} {q8 : Bool} (p np : Int) (w wc w1 w2 w3 w4 : World) (hb : BoxAt w wc w.heap.size c0 c1 s0 q0 q1 q2 q3 q4 q5 q6 q7 q8)
    (b1 : Below wc.heap.size wc w1) (n2 : w2.heap[wc.heap.size + 3]? = some (.cells #[.int .u8 np] 28 (0, 0)))
    (hk : Kept (fun i => i = wc.heap.size + 2 ∨ i = wc.heap.size + 3) (w1.alloc (.cells #[.int .u8 p] 28)) w2) (b3 : Below w2.heap.size w2 w3) (b4 : Below w3.heap.size w3 w4) :
    BoxAt w (w4.alloc (.cells (node d0 d1 st po fl v0 v1 da ins ip sc d) 25)) w4.heap.size d0 d1 st po fl v0 v1 da ins ip sc d ∧
    (w4.alloc (.cells (node d0 d1 st po fl v0 v1 da ins ip sc d) 25)).cell? ⟨wc.heap.size + 3, 0, none⟩ = some (.int .u8 np) := by
  have hlt := (Array.getElem?_eq_some_iff.1 n2).1
  have s3 := b3.size
  have s4 := b4.size
  have e0 : w2.cell? ⟨wc.heap.size + 3, 0, none⟩ = some (.int .u8 np) := by simp [World.cell?, n2]
  refine ⟨⟨NodeAt.of_heap (heap_alloc_new w4 _), ?_⟩, ?_⟩
  · have hw := hb.2.size
    have r1 : Below w.heap.size w w1 := hb.2.trans (b1.mono hw)
    have r2 : Below w.heap.size w (w1.alloc (.cells #[.int .u8 p] 28)) := r1.alloc r1.size _
    have r3 : Below w.heap.size w w2 := r2.trans (hk.below (fun k e => by omega) r2.size)
    have r4 : Below w.heap.size w w4 := r3.trans ((b3.mono r3.size).trans (b4.mono (Nat.le_trans r3.size s3)))
    exact r4.alloc r4.size _
  · refine (World.cell?_alloc_old _ _ _ (by show wc.heap.size + 3 ≠ _; omega)).trans ?_
    exact (b4.cell (p := ⟨wc.heap.size + 3, 0, none⟩) (by show wc.heap.size + 3 < _; omega)).trans ((b3.cell (p := ⟨wc.heap.size + 3, 0, none⟩) hlt).trans e0)

set_option maxHeartbeats 4000000 in
set_option maxRecDepth 100000 in
theorem snow_main (c0 c1 st po fl v0 v1 da ins ip sc p c beta : Int) (d succ : Bool) (w : World)
    (hp : p = 0 ∨ p = 1) (hc : succ = true → c = 0 ∨ c = 1) (h3 : 0 ≤ c0) (h4 : 0 ≤ c1) (h5 : c0 < 9223372036854775807) (h6 : c1 < 9223372036854775807) (hsc : 0 ≤ sc) :
    Calls Try.prog 3 #[.agg #[.int .i64 c0, .int .i64 c1, .int .i64 st, .int .i64 po, .int .i64 fl, .int .i64 v0, .int .i64 v1, .int .i64 da, .int .i64 ins, .int .u32 ip, .int .u8 sc, .bool d], .int .u8 p, .int .u8 c, .bool succ, .int .i64 beta] w (LawPost w) := by
  have h1 : p ≤ 1 := by omega
  have hpq : Hid (p = 0 ∨ p = 1) := hp
  have hcq : Hid (succ = true → c = 0 ∨ c = 1) := hc
  have hbq : Hid (BoxAt w (w.alloc (.cells (node c0 c1 st po fl v0 v1 da ins ip sc d) 25)) w.heap.size c0 c1 st po fl v0 v1 da ins ip sc d) := box_new c0 c1 st po fl v0 v1 da ins ip sc d w
  clear hp hc
  go_enter Try.func3, Try.ntmps3
  go_upto_region 3 with (fail)
  go_cut [24] from 18 (fun t wc => t = .bool false ∧ BoxAt w wc w.heap.size c0 c1 st po fl v0 v1 da ins ip sc d)
  case first =>
    as_aux_lemma =>
      cases succ with
      | false =>
        go_wp2
        go_meet
        case rel => exact ⟨rfl, hbq.out⟩
      | true =>
        have hc1 : c ≤ 1 := by have := hcq.out rfl; omega
        have hdc : decide (1 < c) = false := decide_eq_false (by omega)
        go_wp2
        go_meet
        case rel => exact ⟨by first | rfl | rw [hdc], hbq.out⟩
  case rest =>
    as_aux_lemma =>
      obtain ⟨rfl, hbox⟩ := hcut
      obtain ⟨hlt, k0, k1, k2, k3, k4, k5, k6, k7, k8, k9, k10, k11⟩ := hbox.1
      have hbq : Hid (BoxAt w wc w.heap.size c0 c1 st po fl v0 v1 da ins ip sc d) := hbox
      clear hbox
      have hd0 : decide (c0 < 0) = false := decide_eq_false (by omega)
      have hd1 : decide (c1 < 0) = false := decide_eq_false (by omega)
      have hd2 : (c0 == 9223372036854775807) = false := beq_eq_false_iff_ne.2 (by omega)
      have hd3 : (c1 == 9223372036854775807) = false := beq_eq_false_iff_ne.2 (by omega)
      go_upto_region 9 with (fail)
      go_cut [54] from 18 (fun t wc => t = .bool (decide (conf c0 c1 p < conf c0 c1 (1 - p))) ∧ BoxAt w wc w.heap.size c0 c1 st po fl v0 v1 da ins ip sc d)
      case first =>
        as_aux_lemma =>
          rcases hpq.out with rfl | rfl
          · go_quiet (fail)
            go_wp2
            go_meet
            case rel => exact ⟨by simp [conf], hbq.out.drewN _⟩
          · go_quiet (fail)
            go_wp2
            go_meet
            case rel => exact ⟨by simp [conf], hbq.out.drewN _⟩
      case rest =>
        as_aux_lemma =>
          clear hlt k0 k1 k2 k3 k4 k5 k6 k7 k8 k9 k10 k11 hbq hd0 hd1 hd2 hd3
          obtain ⟨rfl, hbox⟩ := hcut
          obtain ⟨hlt, k0, k1, k2, k3, k4, k5, k6, k7, k8, k9, k10, k11⟩ := hbox.1
          have hbq : Hid (BoxAt w wc w.heap.size c0 c1 st po fl v0 v1 da ins ip sc d) := hbox
          clear hbox
          by_cases htop : conf c0 c1 p < conf c0 c1 (1 - p)
          · rw [decide_eq_true htop]
            go_wp2
            go_ret
            exact ⟨rfl, hbq.out.2⟩
          rw [decide_eq_false htop]
          have htq : Hid (¬ conf c0 c1 p < conf c0 c1 (1 - p)) := htop
          clear htop
          by_cases hst : st < 0
          · go_wp2
            go_ret
            exact ⟨rfl, hbq.out.2⟩
          go_upto_region 13 with (fail)
          go_cut [75] from 18 (fun t wc => t = .bool (decide (0 < st ∧ (1 < sc ∨ conf c0 c1 sc < st))) ∧ BoxAt w wc w.heap.size c0 c1 st po fl v0 v1 da ins ip sc d)
          case first =>
            as_aux_lemma =>
              by_cases hs : 0 < st
              · have hgs : decide (0 < st) = true := decide_eq_true hs
                by_cases hs1 : 1 < sc
                · have hgc : decide (1 < sc) = true := decide_eq_true hs1
                  go_quiet (fail)
                  go_wp2
                  go_meet
                  case rel => exact ⟨by simp [hs, hs1], hbq.out.drewN _⟩
                · have hgc : decide (1 < sc) = false := decide_eq_false hs1
                  have hs01 : sc = 0 ∨ sc = 1 := by omega
                  rcases hs01 with rfl | rfl
                  · go_quiet (fail)
                    go_wp2
                    go_meet
                    case rel => exact ⟨by simp [hs, conf], hbq.out.drewN _⟩
                  · go_quiet (fail)
                    go_wp2
                    go_meet
                    case rel => exact ⟨by simp [hs, conf], hbq.out.drewN _⟩
              · have hgs : decide (0 < st) = false := decide_eq_false hs
                go_quiet (fail)
                go_wp2
                go_meet
                case rel => exact ⟨congrArg Value.bool (decide_eq_false (fun e => absurd e.1 (by omega))).symm, hbq.out.drewN _⟩
          case rest =>
            as_aux_lemma =>
              clear hlt k0 k1 k2 k3 k4 k5 k6 k7 k8 k9 k10 k11 hbq
              obtain ⟨rfl, hbox⟩ := hcut
              by_cases hbad : 0 < st ∧ (1 < sc ∨ conf c0 c1 sc < st)
              · rw [decide_eq_true hbad]
                clear hbad
                have hbq : Hid (BoxAt w wc w.heap.size c0 c1 st po fl v0 v1 da ins ip sc d) := hbox
                clear hbox
                go_wp2
                go_ret
                exact ⟨rfl, hbq.out.2⟩
              rw [decide_eq_false hbad]
              have hpre : Hid (Pre c0 c1 st sc p) := pre_of hpq.out h3 h4 h5 h6 hsc htq.out hst hbad
              clear hbad htq hst
              obtain ⟨hlt, k0, k1, k2, k3, k4, k5, k6, k7, k8, k9, k10, k11⟩ := hbox.1
              have hbq : Hid (BoxAt w wc w.heap.size c0 c1 st po fl v0 v1 da ins ip sc d) := hbox
              clear hbox
              have H4 := new4 c0 c1 st po fl v0 v1 da ins ip sc d wc
              go_upto_region 22 with (first
                | (go_at_call 4; refine H4.mono ?_; rintro e w1 ⟨rfl, z1, g1, b1⟩; have H5 := snow5_at c0 c1 st po fl v0 v1 da ins ip sc d p c beta succ wc w1 z1 g1 hpre.out hcq.out; clear H4)
                | (go_at_call 5; refine H5.mono ?_; rintro e w2 ⟨rfl, d0, d1, st', sc', np, d', n1, n2, haf, hkp⟩; have H7 := fields7 _ d0 d1 st' po fl v0 v1 da ins ip sc' d' w2 (NodeAt.of_heap n1); have q2 : Hid (_ ∧ _ ∧ _) := ⟨n2, haf, hkp⟩; have hnp : np ≤ 1 := (by have := haf.pref; omega); clear H5 n1 n2 haf hkp)
                | (go_at_call 7; refine H7.mono ?_; rintro e w3 ⟨rfl, b3⟩; have H6 := of6 d0 d1 st' po fl v0 v1 da ins ip sc' d' w3; unfold node at H6; clear H7)
                | (go_at_call 6; refine H6.mono ?_; rintro e w4 ⟨rfl, b4⟩; have hbm := box_mid d0 d1 st' po fl v0 v1 da ins ip sc' d' p np w wc w1 w2 w3 w4 hbq.out b1 q2.out.1 q2.out.2.2 b3 b4; have kp4 := hbm.2; unfold node at kp4; have hbmq : Hid (BoxAt w (w4.alloc (.cells (node d0 d1 st' po fl v0 v1 da ins ip sc' d') 25)) w4.heap.size d0 d1 st' po fl v0 v1 da ins ip sc' d') := hbm.1; clear hbm H6))
              have afq : Hid (After c0 c1 p succ d0 d1 st' sc' np) := q2.out.2.1
              clear q2 kp4 b3 b4 b1 g1 z1 hbq k0 k1 k2 k3 k4 k5 k6 k7 k8 k9 k10 k11 hlt hpre
              go_cut [128] from 18 (fun t wc => t = .bool false ∧ BoxAt w wc w4.heap.size d0 d1 st' po fl v0 v1 da ins ip sc' d')
              case first =>
                as_aux_lemma =>
                  rcases afq.out.pref with rfl | rfl
                  · have hg : decide (d0 < d1) = false := decide_eq_false (by have := afq.out.top; simp [conf] at this; omega)
                    go_quiet (fail)
                    go_wp2
                    go_meet
                    case rel => exact ⟨by first | rfl | rw [hg], hbmq.out.drewN _⟩
                  · have hg : decide (d1 < d0) = false := decide_eq_false (by have := afq.out.top; simp [conf] at this; omega)
                    go_quiet (fail)
                    go_wp2
                    go_meet
                    case rel => exact ⟨by first | rfl | rw [hg], hbmq.out.drewN _⟩
              case rest =>
                as_aux_lemma =>
                  clear hbmq
                  obtain ⟨rfl, hbox⟩ := hcut
                  obtain ⟨hlt, k0, k1, k2, k3, k4, k5, k6, k7, k8, k9, k10, k11⟩ := hbox.1
                  have hbq : Hid (BoxAt w wc w4.heap.size d0 d1 st' po fl v0 v1 da ins ip sc' d') := hbox
                  clear hbox
                  go_upto_region 24 with (fail)
                  go_cut [142] from 18 (fun t wc => t = .bool false ∧ BoxAt w wc w4.heap.size d0 d1 st' po fl v0 v1 da ins ip sc' d')
                  case first =>
                    as_aux_lemma =>
                      rcases afq.out.pref with rfl | rfl <;> rcases hpq.out with rfl | rfl
                      · have hg : decide (d0 ≤ d1) = decide (d0 ≤ d1) := rfl
                        go_quiet (fail)
                        go_wp2
                        go_meet
                        case rel => exact ⟨by first | rfl | rw [hg], hbq.out.drewN _⟩
                      · have hg : decide (d0 ≤ d1) = false := decide_eq_false (by have := afq.out.moved (by decide); simp [conf] at this; omega)
                        go_quiet (fail)
                        go_wp2
                        go_meet
                        case rel => exact ⟨by first | rfl | rw [hg], hbq.out.drewN _⟩
                      · have hg : decide (d1 ≤ d0) = false := decide_eq_false (by have := afq.out.moved (by decide); simp [conf] at this; omega)
                        go_quiet (fail)
                        go_wp2
                        go_meet
                        case rel => exact ⟨by first | rfl | rw [hg], hbq.out.drewN _⟩
                      · have hg : decide (d0 ≤ d1) = decide (d0 ≤ d1) := rfl
                        go_quiet (fail)
                        go_wp2
                        go_meet
                        case rel => exact ⟨by first | rfl | rw [hg], hbq.out.drewN _⟩
                  case rest =>
                    as_aux_lemma =>
                      clear hlt k0 k1 k2 k3 k4 k5 k6 k7 k8 k9 k10 k11 hbq
                      obtain ⟨rfl, hbox⟩ := hcut
                      obtain ⟨hlt, k0, k1, k2, k3, k4, k5, k6, k7, k8, k9, k10, k11⟩ := hbox.1
                      have hbq : Hid (BoxAt w wc w4.heap.size d0 d1 st' po fl v0 v1 da ins ip sc' d') := hbox
                      clear hbox
                      have hst0 : 0 ≤ st' := afq.out.st0
                      go_upto_region 28 with (fail)
                      go_cut [163] from 18 (fun t wc => t = .bool false ∧ BoxAt w wc w4.heap.size d0 d1 st' po fl v0 v1 da ins ip sc' d')
                      case first =>
                        as_aux_lemma =>
                          by_cases hs : 0 < st'
                          · have hgs : decide (0 < st') = true := decide_eq_true hs
                            obtain ⟨hs01, hle⟩ := afq.out.run hs
                            have hleq : Hid (st' ≤ conf d0 d1 sc') := hle
                            clear hle
                            rcases hs01 with rfl | rfl
                            · have hg : decide (d0 < st') = false := decide_eq_false (by have := hleq.out; simp [conf] at this; omega)
                              go_quiet (fail)
                              go_wp2
                              go_meet
                              case rel => exact ⟨by first | rfl | rw [hg], hbq.out.drewN _⟩
                            · have hg : decide (d1 < st') = false := decide_eq_false (by have := hleq.out; simp [conf] at this; omega)
                              go_quiet (fail)
                              go_wp2
                              go_meet
                              case rel => exact ⟨by first | rfl | rw [hg], hbq.out.drewN _⟩
                          · have hg : decide (0 < st') = false := decide_eq_false hs
                            go_quiet (fail)
                            go_wp2
                            go_meet
                            case rel => exact ⟨by first | rfl | rw [hg], hbq.out.drewN _⟩
                      case rest =>
                        as_aux_lemma =>
                          clear hlt k0 k1 k2 k3 k4 k5 k6 k7 k8 k9 k10 k11 hbq
                          obtain ⟨rfl, hbox⟩ := hcut
                          obtain ⟨hlt, k0, k1, k2, k3, k4, k5, k6, k7, k8, k9, k10, k11⟩ := hbox.1
                          have hbq : Hid (BoxAt w wc w4.heap.size d0 d1 st' po fl v0 v1 da ins ip sc' d') := hbox
                          clear hbox
                          have hd0 : decide (d0 < c0) = false := decide_eq_false (by have := afq.out.up0; omega)
                          have hd1 : decide (d1 < c1) = false := decide_eq_false (by have := afq.out.up1; omega)
                          go_upto_if 176 with (fail)
                          go_cut [17] from 18 (fun t wc => t = .int .i64 (if succ then 1 else 0) ∧ BoxAt w wc w4.heap.size d0 d1 st' po fl v0 v1 da ins ip sc' d')
                          case first =>
                            as_aux_lemma =>
                              cases succ with
                              | false =>
                                go_wp2
                                go_meet
                                case rel => exact ⟨rfl, hbq.out⟩
                              | true =>
                                go_wp2
                                go_meet
                                case rel => exact ⟨rfl, hbq.out⟩
                          case rest =>
                            as_aux_lemma =>
                              clear hlt k0 k1 k2 k3 k4 k5 k6 k7 k8 k9 k10 k11 hbq
                              obtain ⟨rfl, hbox⟩ := hcut
                              obtain ⟨hlt, k0, k1, k2, k3, k4, k5, k6, k7, k8, k9, k10, k11⟩ := hbox.1
                              have hbq : Hid (BoxAt w wc w4.heap.size d0 d1 st' po fl v0 v1 da ins ip sc' d') := hbox
                              clear hbox
                              obtain ⟨g, hg⟩ : ∃ g : Int, (if succ then 1 else 0) = g := ⟨_, rfl⟩
                              rw [hg]
                              have hgq : Hid ((if succ then 1 else 0) = g) := hg
                              clear hg
                              go_wp2
                              go_ret
                              refine ⟨?_, hbq.out.2⟩
                              show Ending.returned (.bool (wrap64 (d0 + d1) == wrap64 (wrap64 (c0 + c1) + g))) = _
                              rw [sum_ok (afq.out.sum.trans (by rw [hgq.out]))]
end Go.Proofs.Qxb6601328a
