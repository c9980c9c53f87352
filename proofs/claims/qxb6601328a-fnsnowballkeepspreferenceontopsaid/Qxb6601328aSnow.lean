/-
  Seat b6601328a: extendStreak (9), snowball (8), ZZSnowball (5).
-/
import Derived.Test.Qxb6601328aBase
import Derived.Deep.RegionHeld3
import Derived.BigQuiet
namespace Go.Proofs.Qxb6601328a
open Go.RowKit

/-- Every block that was there is as it was, but for those of S. -/
structure Kept (S : Nat → Prop) (w w' : World) : Prop where
  os : w'.os = w.os
  tape : w'.tape = w.tape
  output : w'.output = w.output
  size : w.heap.size ≤ w'.heap.size
  block : ∀ k, k < w.heap.size → ¬ S k → w'.heap[k]? = w.heap[k]?

namespace Kept
variable {S T : Nat → Prop} {w w' w'' : World}
theorem refl (S : Nat → Prop) (w : World) : Kept S w w := ⟨rfl, rfl, rfl, Nat.le_refl _, fun _ _ _ => rfl⟩
theorem trans (h : Kept S w w') (k : Kept T w' w'') (hT : ∀ i, i < w.heap.size → T i → S i) : Kept S w w'' :=
  ⟨k.os.trans h.os, k.tape.trans h.tape, k.output.trans h.output, Nat.le_trans h.size k.size,
    fun i hi hs => (k.block i (Nat.lt_of_lt_of_le hi h.size) (fun e => hs (hT i hi e))).trans (h.block i hi hs)⟩
theorem drew (h : Kept S w w') : Kept S w w'.drew := ⟨h.os, h.tape, h.output, h.size, h.block⟩
theorem drewN (h : Kept S w w') (n : Nat) : Kept S w (w'.drewN n) := ⟨h.os, h.tape, h.output, h.size, h.block⟩
theorem setCell (h : Kept S w w') {a : Addr} (ha : S a.block) (v : Value) : Kept S w (w'.setCell a v) :=
  h.trans (T := fun k => k = a.block) ⟨rfl, rfl, rfl, by simp [World.setCell], fun k _ e => heap_setCell_other w' a k v e⟩ (fun _ _ e => e ▸ ha)
theorem below {B : Nat} (h : Kept S w w') (hS : ∀ k, S k → B ≤ k) (hB : B ≤ w.heap.size) : Below B w w' :=
  ⟨h.os, h.tape, h.output, h.size, fun k hk => h.block k (by omega) (fun e => by have := hS k e; omega)⟩
theorem cell (h : Kept S w w') {a : Addr} (ha : a.block < w.heap.size) (hb : ¬ S a.block) : w'.cell? a = w.cell? a := World.cell?_of_block (w := w) (h.block a.block ha hb)
end Kept

/-- A store into a block of cells. -/
theorem heap_set {w : World} {b : Nat} {C : Array Value} {t : TypeId} (h : w.heap[b]? = some (.cells C t (0, 0))) (i : Nat) (v : Value) : (w.setCell ⟨b, i, none⟩ v).heap[b]? = some (.cells (C.setIfInBounds i v) t (0, 0)) := by
  simp [World.setCell, Array.getElem?_modify, h]

theorem extend9 (b : Nat) (c0 c1 st po fl v0 v1 da ins ip sc c : Int) (d : Bool) (w : World) (h : w.heap[b]? = some (.cells (node c0 c1 st po fl v0 v1 da ins ip sc d) 37 (0, 0))) (h0 : 0 ≤ st) (h1 : st < 9223372036854775807) :
    Calls Try.prog 9 #[.pointer (some ⟨b, 0, none⟩), .int .u8 c] w fun e w' =>
      e = .returned (.tuple #[]) ∧ w'.heap[b]? = some (.cells (node c0 c1 (if c = sc then st + 1 else 1) po fl v0 v1 da ins ip c d) 37 (0, 0)) ∧ Kept (fun i => i = b) w w' := by
  have k2 := (NodeAt.of_heap h).k2
  have k10 := (NodeAt.of_heap h).k10
  have f2 := frozen_of_row w b 2 _ _ h
  have f10 := frozen_of_row w b 10 _ _ h
  have hq : Hid (w.heap[b]? = some (.cells (node c0 c1 st po fl v0 v1 da ins ip sc d) 37 (0, 0))) := h
  clear h
  by_cases hc : c = sc
  · subst hc
    go_enter Try.func9, Try.ntmps9
    go_wp2
    go_end0
    refine ⟨rfl, ?_, (Kept.refl (fun i => i = b) w).setCell (a := ⟨b, _, none⟩) rfl _⟩
    rw [heap_set hq.out]
    rfl
  · have hb : (c == sc) = false := beq_eq_false_iff_ne.2 hc
    go_enter Try.func9, Try.ntmps9
    go_wp2
    go_end0
    refine ⟨rfl, ?_, ((Kept.refl (fun i => i = b) w).setCell (a := ⟨b, _, none⟩) rfl _).setCell (a := ⟨b, _, none⟩) rfl _⟩
    rw [heap_set (heap_set hq.out _ _)]
    rfl

/-- The poll failed: the streak is gone. -/
theorem snow8_fail (b pb : Nat) (c0 c1 st po fl v0 v1 da ins ip sc c beta : Int) (d : Bool) (w : World) (h : w.heap[b]? = some (.cells (node c0 c1 st po fl v0 v1 da ins ip sc d) 37 (0, 0))) :
    Calls Try.prog 8 #[.pointer (some ⟨b, 0, none⟩), .pointer (some ⟨pb, 0, none⟩), .int .u8 c, .bool false, .int .i64 beta] w fun e w' =>
      e = .returned (.tuple #[]) ∧ w'.heap[b]? = some (.cells (node c0 c1 0 po fl v0 v1 da ins ip sc d) 37 (0, 0)) ∧ Kept (fun i => i = b) w w' := by
  have k2 := (NodeAt.of_heap h).k2
  have f2 := frozen_of_row w b 2 _ _ h
  have hq : Hid (w.heap[b]? = some (.cells (node c0 c1 st po fl v0 v1 da ins ip sc d) 37 (0, 0))) := h
  clear h
  go_enter Try.func8, Try.ntmps8
  go_wp2
  refine bodyPost_ret (results_none rfl _ _ _) rfl ?_
  refine ⟨rfl, ?_, (Kept.refl (fun i => i = b) w).setCell (a := ⟨b, _, none⟩) rfl _⟩
  rw [heap_set hq.out]
  rfl

/-- The poll succeeded for 0; 0 is preferred. -/
theorem snow8_00 (b pb : Nat) (c0 c1 st po fl v0 v1 da ins ip sc beta : Int) (d : Bool) (w : World) (h : w.heap[b]? = some (.cells (node c0 c1 st po fl v0 v1 da ins ip sc d) 37 (0, 0))) (hp : w.heap[pb]? = some (.cells #[.int .u8 0] 28 (0, 0))) (hne : b ≠ pb)
    (h0 : 0 ≤ st) (h1 : st < 9223372036854775807) (hc0 : 0 ≤ c0) (hc1 : c0 < 9223372036854775807) :
    Calls Try.prog 8 #[.pointer (some ⟨b, 0, none⟩), .pointer (some ⟨pb, 0, none⟩), .int .u8 0, .bool true, .int .i64 beta] w fun e w' =>
      e = .returned (.tuple #[]) ∧ ∃ d', w'.heap[b]? = some (.cells (node (c0 + 1) c1 (if 0 = sc then st + 1 else 1) po fl v0 v1 da ins ip 0 d') 37 (0, 0)) ∧ w'.heap[pb]? = some (.cells #[.int .u8 0] 28 (0, 0)) ∧ Kept (fun i => i = b ∨ i = pb) w w' := by
  obtain ⟨s', hs'⟩ : ∃ s', (if 0 = sc then st + 1 else 1) = s' := ⟨_, rfl⟩
  rw [hs']
  have hsq : Hid ((if 0 = sc then st + 1 else 1) = s') := hs'
  clear hs'
  have k0 := (NodeAt.of_heap h).k0
  have k1 := (NodeAt.of_heap h).k1
  have f0 := frozen_of_row w b 0 _ _ h
  have e1 : (w.setCell ⟨b, 0, none⟩ (.int .i64 (c0 + 1))).drew.heap[b]? = some (.cells (node (c0 + 1) c1 st po fl v0 v1 da ins ip sc d) 37 (0, 0)) := heap_set h 0 (.int .i64 (c0 + 1))
  have e2 : (w.setCell ⟨b, 0, none⟩ (.int .i64 (c0 + 1))).drew.heap[pb]? = some (.cells #[.int .u8 0] 28 (0, 0)) := (heap_setCell_other w ⟨b, 0, none⟩ pb _ (Ne.symm hne)).trans hp
  have e3 : Kept (fun i => i = b ∨ i = pb) w (w.setCell ⟨b, 0, none⟩ (.int .i64 (c0 + 1))).drew := ((Kept.refl (fun i => i = b ∨ i = pb) w).setCell (a := ⟨b, _, none⟩) (.inl rfl) _).drew
  have q1 : Hid (_ ∧ _ ∧ _) := ⟨e1, e2, e3⟩
  clear e1 e2 e3 h hp
  go_enter Try.func8, Try.ntmps8
  go_wp2_with fail
  go_region
  obtain ⟨g1, g2, g3⟩ := q1.out
  clear q1 k0 k1 f0
  generalize (w.setCell ⟨b, 0, none⟩ (.int .i64 (c0 + 1))).drew = w1 at *
  have k0 := (NodeAt.of_heap g1).k0
  have k1 := (NodeAt.of_heap g1).k1
  have kp : w1.cell? ⟨pb, 0, none⟩ = some (.int .u8 0) := by simp [World.cell?, g2]
  have fp := frozen_of_row w1 pb 0 _ _ g2
  have q1 : Hid (_ ∧ _ ∧ _) := ⟨g1, g2, g3⟩
  clear g1 g2 g3
  go_wp2_with fail
  go_quiet (fail)
  go_wp2_with (go_at_call 9; (refine (extend9 b (c0 + 1) c1 st po fl v0 v1 da ins ip sc 0 d (w1.drewN nq) q1.out.1 h0 h1).mono ?_; rintro e w2 ⟨rfl, m1, m2⟩; rw [hsq.out] at m1; have s2 := (NodeAt.of_heap m1).k2; have s11 := (NodeAt.of_heap m1).k11; have f11 := frozen_of_row w2 b 11 _ _ m1; have q2 : Hid (_ ∧ _) := ⟨m1, m2⟩; clear m1 m2))
  go_end0
  refine ⟨rfl, _, heap_set q2.out.1 11 _, ?_, ?_⟩
  · refine (heap_setCell_other w2 ⟨b, 11, none⟩ pb _ (Ne.symm hne)).trans ((q2.out.2.block pb ?_ (Ne.symm hne)).trans q1.out.2.1)
    exact (Array.getElem?_eq_some_iff.1 q1.out.2.1).1
  · have := (q1.out.2.2.drewN nq).trans q2.out.2 (fun _ _ e => .inl e)
    exact this.setCell (a := ⟨b, _, none⟩) (.inl rfl) _

/-- The poll succeeded for 0; 1 is preferred. -/
theorem snow8_01 (b pb : Nat) (c0 c1 st po fl v0 v1 da ins ip sc beta : Int) (d : Bool) (w : World) (h : w.heap[b]? = some (.cells (node c0 c1 st po fl v0 v1 da ins ip sc d) 37 (0, 0))) (hp : w.heap[pb]? = some (.cells #[.int .u8 1] 28 (0, 0))) (hne : b ≠ pb)
    (h0 : 0 ≤ st) (h1 : st < 9223372036854775807) (hc0 : 0 ≤ c0) (hc1 : c0 < 9223372036854775807) :
    Calls Try.prog 8 #[.pointer (some ⟨b, 0, none⟩), .pointer (some ⟨pb, 0, none⟩), .int .u8 0, .bool true, .int .i64 beta] w fun e w' =>
      e = .returned (.tuple #[]) ∧ ∃ d', w'.heap[b]? = some (.cells (node (c0 + 1) c1 (if 0 = sc then st + 1 else 1) po fl v0 v1 da ins ip 0 d') 37 (0, 0)) ∧ w'.heap[pb]? = some (.cells #[.int .u8 (if c1 < c0 + 1 then 0 else 1)] 28 (0, 0)) ∧ Kept (fun i => i = b ∨ i = pb) w w' := by
  obtain ⟨s', hs'⟩ : ∃ s', (if 0 = sc then st + 1 else 1) = s' := ⟨_, rfl⟩
  rw [hs']
  have hsq : Hid ((if 0 = sc then st + 1 else 1) = s') := hs'
  clear hs'
  by_cases hlt : c1 < c0 + 1
  · rw [if_pos hlt]
    have k0 := (NodeAt.of_heap h).k0
    have k1 := (NodeAt.of_heap h).k1
    have f0 := frozen_of_row w b 0 _ _ h
    have e1 : (w.setCell ⟨b, 0, none⟩ (.int .i64 (c0 + 1))).drew.heap[b]? = some (.cells (node (c0 + 1) c1 st po fl v0 v1 da ins ip sc d) 37 (0, 0)) := heap_set h 0 (.int .i64 (c0 + 1))
    have e2 : (w.setCell ⟨b, 0, none⟩ (.int .i64 (c0 + 1))).drew.heap[pb]? = some (.cells #[.int .u8 1] 28 (0, 0)) := (heap_setCell_other w ⟨b, 0, none⟩ pb _ (Ne.symm hne)).trans hp
    have e3 : Kept (fun i => i = b ∨ i = pb) w (w.setCell ⟨b, 0, none⟩ (.int .i64 (c0 + 1))).drew := ((Kept.refl (fun i => i = b ∨ i = pb) w).setCell (a := ⟨b, _, none⟩) (.inl rfl) _).drew
    have q1 : Hid (_ ∧ _ ∧ _) := ⟨e1, e2, e3⟩
    clear e1 e2 e3 h hp
    go_enter Try.func8, Try.ntmps8
    go_wp2_with fail
    go_region
    obtain ⟨g1, g2, g3⟩ := q1.out
    clear q1 k0 k1 f0
    generalize (w.setCell ⟨b, 0, none⟩ (.int .i64 (c0 + 1))).drew = w1 at *
    have k0 := (NodeAt.of_heap g1).k0
    have k1 := (NodeAt.of_heap g1).k1
    have kp : w1.cell? ⟨pb, 0, none⟩ = some (.int .u8 1) := by simp [World.cell?, g2]
    have fp := frozen_of_row w1 pb 0 _ _ g2
    have q1 : Hid (_ ∧ _ ∧ _) := ⟨g1, g2, g3⟩
    clear g1 g2 g3
    go_wp2_with fail
    go_quiet (fail)
    go_wp2_with (go_at_call 9; (refine (extend9 b (c0 + 1) c1 st po fl v0 v1 da ins ip sc 0 d ((w1.drewN nq).setCell ⟨pb, 0, none⟩ (.int .u8 0)) ((heap_setCell_other (w1.drewN nq) ⟨pb, 0, none⟩ b (.int .u8 0) hne).trans q1.out.1) h0 h1).mono ?_; rintro e w2 ⟨rfl, m1, m2⟩; rw [hsq.out] at m1; have s2 := (NodeAt.of_heap m1).k2; have s11 := (NodeAt.of_heap m1).k11; have f11 := frozen_of_row w2 b 11 _ _ m1; have q2 : Hid (_ ∧ _) := ⟨m1, m2⟩; clear m1 m2))
    go_end0
    refine ⟨rfl, _, heap_set q2.out.1 11 _, ?_, ?_⟩
    · refine (heap_setCell_other w2 ⟨b, 11, none⟩ pb _ (Ne.symm hne)).trans ((q2.out.2.block pb ?_ (Ne.symm hne)).trans (heap_set (w := w1.drewN nq) q1.out.2.1 0 (.int .u8 0)))
      exact (Array.getElem?_eq_some_iff.1 (heap_set (w := w1.drewN nq) q1.out.2.1 0 (.int .u8 0))).1
    · have := ((q1.out.2.2.drewN nq).setCell (a := ⟨pb, 0, none⟩) (.inr rfl) (.int .u8 0)).trans q2.out.2 (fun _ _ e => .inl e)
      exact this.setCell (a := ⟨b, _, none⟩) (.inl rfl) _
  · rw [if_neg hlt]
    have k0 := (NodeAt.of_heap h).k0
    have k1 := (NodeAt.of_heap h).k1
    have f0 := frozen_of_row w b 0 _ _ h
    have e1 : (w.setCell ⟨b, 0, none⟩ (.int .i64 (c0 + 1))).drew.heap[b]? = some (.cells (node (c0 + 1) c1 st po fl v0 v1 da ins ip sc d) 37 (0, 0)) := heap_set h 0 (.int .i64 (c0 + 1))
    have e2 : (w.setCell ⟨b, 0, none⟩ (.int .i64 (c0 + 1))).drew.heap[pb]? = some (.cells #[.int .u8 1] 28 (0, 0)) := (heap_setCell_other w ⟨b, 0, none⟩ pb _ (Ne.symm hne)).trans hp
    have e3 : Kept (fun i => i = b ∨ i = pb) w (w.setCell ⟨b, 0, none⟩ (.int .i64 (c0 + 1))).drew := ((Kept.refl (fun i => i = b ∨ i = pb) w).setCell (a := ⟨b, _, none⟩) (.inl rfl) _).drew
    have q1 : Hid (_ ∧ _ ∧ _) := ⟨e1, e2, e3⟩
    clear e1 e2 e3 h hp
    go_enter Try.func8, Try.ntmps8
    go_wp2_with fail
    go_region
    obtain ⟨g1, g2, g3⟩ := q1.out
    clear q1 k0 k1 f0
    generalize (w.setCell ⟨b, 0, none⟩ (.int .i64 (c0 + 1))).drew = w1 at *
    have k0 := (NodeAt.of_heap g1).k0
    have k1 := (NodeAt.of_heap g1).k1
    have kp : w1.cell? ⟨pb, 0, none⟩ = some (.int .u8 1) := by simp [World.cell?, g2]
    have fp := frozen_of_row w1 pb 0 _ _ g2
    have q1 : Hid (_ ∧ _ ∧ _) := ⟨g1, g2, g3⟩
    clear g1 g2 g3
    go_wp2_with fail
    go_quiet (fail)
    go_wp2_with (go_at_call 9; (refine (extend9 b (c0 + 1) c1 st po fl v0 v1 da ins ip sc 0 d (w1.drewN nq) q1.out.1 h0 h1).mono ?_; rintro e w2 ⟨rfl, m1, m2⟩; rw [hsq.out] at m1; have s2 := (NodeAt.of_heap m1).k2; have s11 := (NodeAt.of_heap m1).k11; have f11 := frozen_of_row w2 b 11 _ _ m1; have q2 : Hid (_ ∧ _) := ⟨m1, m2⟩; clear m1 m2))
    go_end0
    refine ⟨rfl, _, heap_set q2.out.1 11 _, ?_, ?_⟩
    · refine (heap_setCell_other w2 ⟨b, 11, none⟩ pb _ (Ne.symm hne)).trans ((q2.out.2.block pb ?_ (Ne.symm hne)).trans q1.out.2.1)
      exact (Array.getElem?_eq_some_iff.1 q1.out.2.1).1
    · have := (q1.out.2.2.drewN nq).trans q2.out.2 (fun _ _ e => .inl e)
      exact this.setCell (a := ⟨b, _, none⟩) (.inl rfl) _

/-- The poll succeeded for 1; 0 is preferred. -/
theorem snow8_10 (b pb : Nat) (c0 c1 st po fl v0 v1 da ins ip sc beta : Int) (d : Bool) (w : World) (h : w.heap[b]? = some (.cells (node c0 c1 st po fl v0 v1 da ins ip sc d) 37 (0, 0))) (hp : w.heap[pb]? = some (.cells #[.int .u8 0] 28 (0, 0))) (hne : b ≠ pb)
    (h0 : 0 ≤ st) (h1 : st < 9223372036854775807) (hc0 : 0 ≤ c1) (hc1 : c1 < 9223372036854775807) :
    Calls Try.prog 8 #[.pointer (some ⟨b, 0, none⟩), .pointer (some ⟨pb, 0, none⟩), .int .u8 1, .bool true, .int .i64 beta] w fun e w' =>
      e = .returned (.tuple #[]) ∧ ∃ d', w'.heap[b]? = some (.cells (node c0 (c1 + 1) (if 1 = sc then st + 1 else 1) po fl v0 v1 da ins ip 1 d') 37 (0, 0)) ∧ w'.heap[pb]? = some (.cells #[.int .u8 (if c0 < c1 + 1 then 1 else 0)] 28 (0, 0)) ∧ Kept (fun i => i = b ∨ i = pb) w w' := by
  obtain ⟨s', hs'⟩ : ∃ s', (if 1 = sc then st + 1 else 1) = s' := ⟨_, rfl⟩
  rw [hs']
  have hsq : Hid ((if 1 = sc then st + 1 else 1) = s') := hs'
  clear hs'
  by_cases hlt : c0 < c1 + 1
  · rw [if_pos hlt]
    have k0 := (NodeAt.of_heap h).k0
    have k1 := (NodeAt.of_heap h).k1
    have f1 := frozen_of_row w b 1 _ _ h
    have e1 : (w.setCell ⟨b, 1, none⟩ (.int .i64 (c1 + 1))).drew.heap[b]? = some (.cells (node c0 (c1 + 1) st po fl v0 v1 da ins ip sc d) 37 (0, 0)) := heap_set h 1 (.int .i64 (c1 + 1))
    have e2 : (w.setCell ⟨b, 1, none⟩ (.int .i64 (c1 + 1))).drew.heap[pb]? = some (.cells #[.int .u8 0] 28 (0, 0)) := (heap_setCell_other w ⟨b, 1, none⟩ pb _ (Ne.symm hne)).trans hp
    have e3 : Kept (fun i => i = b ∨ i = pb) w (w.setCell ⟨b, 1, none⟩ (.int .i64 (c1 + 1))).drew := ((Kept.refl (fun i => i = b ∨ i = pb) w).setCell (a := ⟨b, _, none⟩) (.inl rfl) _).drew
    have q1 : Hid (_ ∧ _ ∧ _) := ⟨e1, e2, e3⟩
    clear e1 e2 e3 h hp
    go_enter Try.func8, Try.ntmps8
    go_wp2_with fail
    go_region
    obtain ⟨g1, g2, g3⟩ := q1.out
    clear q1 k0 k1 f1
    generalize (w.setCell ⟨b, 1, none⟩ (.int .i64 (c1 + 1))).drew = w1 at *
    have k0 := (NodeAt.of_heap g1).k0
    have k1 := (NodeAt.of_heap g1).k1
    have kp : w1.cell? ⟨pb, 0, none⟩ = some (.int .u8 0) := by simp [World.cell?, g2]
    have fp := frozen_of_row w1 pb 0 _ _ g2
    have q1 : Hid (_ ∧ _ ∧ _) := ⟨g1, g2, g3⟩
    clear g1 g2 g3
    go_wp2_with fail
    go_quiet (fail)
    go_wp2_with (go_at_call 9; (refine (extend9 b c0 (c1 + 1) st po fl v0 v1 da ins ip sc 1 d ((w1.drewN nq).setCell ⟨pb, 0, none⟩ (.int .u8 1)) ((heap_setCell_other (w1.drewN nq) ⟨pb, 0, none⟩ b (.int .u8 1) hne).trans q1.out.1) h0 h1).mono ?_; rintro e w2 ⟨rfl, m1, m2⟩; rw [hsq.out] at m1; have s2 := (NodeAt.of_heap m1).k2; have s11 := (NodeAt.of_heap m1).k11; have f11 := frozen_of_row w2 b 11 _ _ m1; have q2 : Hid (_ ∧ _) := ⟨m1, m2⟩; clear m1 m2))
    go_end0
    refine ⟨rfl, _, heap_set q2.out.1 11 _, ?_, ?_⟩
    · refine (heap_setCell_other w2 ⟨b, 11, none⟩ pb _ (Ne.symm hne)).trans ((q2.out.2.block pb ?_ (Ne.symm hne)).trans (heap_set (w := w1.drewN nq) q1.out.2.1 0 (.int .u8 1)))
      exact (Array.getElem?_eq_some_iff.1 (heap_set (w := w1.drewN nq) q1.out.2.1 0 (.int .u8 1))).1
    · have := ((q1.out.2.2.drewN nq).setCell (a := ⟨pb, 0, none⟩) (.inr rfl) (.int .u8 1)).trans q2.out.2 (fun _ _ e => .inl e)
      exact this.setCell (a := ⟨b, _, none⟩) (.inl rfl) _
  · rw [if_neg hlt]
    have k0 := (NodeAt.of_heap h).k0
    have k1 := (NodeAt.of_heap h).k1
    have f1 := frozen_of_row w b 1 _ _ h
    have e1 : (w.setCell ⟨b, 1, none⟩ (.int .i64 (c1 + 1))).drew.heap[b]? = some (.cells (node c0 (c1 + 1) st po fl v0 v1 da ins ip sc d) 37 (0, 0)) := heap_set h 1 (.int .i64 (c1 + 1))
    have e2 : (w.setCell ⟨b, 1, none⟩ (.int .i64 (c1 + 1))).drew.heap[pb]? = some (.cells #[.int .u8 0] 28 (0, 0)) := (heap_setCell_other w ⟨b, 1, none⟩ pb _ (Ne.symm hne)).trans hp
    have e3 : Kept (fun i => i = b ∨ i = pb) w (w.setCell ⟨b, 1, none⟩ (.int .i64 (c1 + 1))).drew := ((Kept.refl (fun i => i = b ∨ i = pb) w).setCell (a := ⟨b, _, none⟩) (.inl rfl) _).drew
    have q1 : Hid (_ ∧ _ ∧ _) := ⟨e1, e2, e3⟩
    clear e1 e2 e3 h hp
    go_enter Try.func8, Try.ntmps8
    go_wp2_with fail
    go_region
    obtain ⟨g1, g2, g3⟩ := q1.out
    clear q1 k0 k1 f1
    generalize (w.setCell ⟨b, 1, none⟩ (.int .i64 (c1 + 1))).drew = w1 at *
    have k0 := (NodeAt.of_heap g1).k0
    have k1 := (NodeAt.of_heap g1).k1
    have kp : w1.cell? ⟨pb, 0, none⟩ = some (.int .u8 0) := by simp [World.cell?, g2]
    have fp := frozen_of_row w1 pb 0 _ _ g2
    have q1 : Hid (_ ∧ _ ∧ _) := ⟨g1, g2, g3⟩
    clear g1 g2 g3
    go_wp2_with fail
    go_quiet (fail)
    go_wp2_with (go_at_call 9; (refine (extend9 b c0 (c1 + 1) st po fl v0 v1 da ins ip sc 1 d (w1.drewN nq) q1.out.1 h0 h1).mono ?_; rintro e w2 ⟨rfl, m1, m2⟩; rw [hsq.out] at m1; have s2 := (NodeAt.of_heap m1).k2; have s11 := (NodeAt.of_heap m1).k11; have f11 := frozen_of_row w2 b 11 _ _ m1; have q2 : Hid (_ ∧ _) := ⟨m1, m2⟩; clear m1 m2))
    go_end0
    refine ⟨rfl, _, heap_set q2.out.1 11 _, ?_, ?_⟩
    · refine (heap_setCell_other w2 ⟨b, 11, none⟩ pb _ (Ne.symm hne)).trans ((q2.out.2.block pb ?_ (Ne.symm hne)).trans q1.out.2.1)
      exact (Array.getElem?_eq_some_iff.1 q1.out.2.1).1
    · have := (q1.out.2.2.drewN nq).trans q2.out.2 (fun _ _ e => .inl e)
      exact this.setCell (a := ⟨b, _, none⟩) (.inl rfl) _

/-- The poll succeeded for 1; 1 is preferred. -/
theorem snow8_11 (b pb : Nat) (c0 c1 st po fl v0 v1 da ins ip sc beta : Int) (d : Bool) (w : World) (h : w.heap[b]? = some (.cells (node c0 c1 st po fl v0 v1 da ins ip sc d) 37 (0, 0))) (hp : w.heap[pb]? = some (.cells #[.int .u8 1] 28 (0, 0))) (hne : b ≠ pb)
    (h0 : 0 ≤ st) (h1 : st < 9223372036854775807) (hc0 : 0 ≤ c1) (hc1 : c1 < 9223372036854775807) :
    Calls Try.prog 8 #[.pointer (some ⟨b, 0, none⟩), .pointer (some ⟨pb, 0, none⟩), .int .u8 1, .bool true, .int .i64 beta] w fun e w' =>
      e = .returned (.tuple #[]) ∧ ∃ d', w'.heap[b]? = some (.cells (node c0 (c1 + 1) (if 1 = sc then st + 1 else 1) po fl v0 v1 da ins ip 1 d') 37 (0, 0)) ∧ w'.heap[pb]? = some (.cells #[.int .u8 1] 28 (0, 0)) ∧ Kept (fun i => i = b ∨ i = pb) w w' := by
  obtain ⟨s', hs'⟩ : ∃ s', (if 1 = sc then st + 1 else 1) = s' := ⟨_, rfl⟩
  rw [hs']
  have hsq : Hid ((if 1 = sc then st + 1 else 1) = s') := hs'
  clear hs'
  have k0 := (NodeAt.of_heap h).k0
  have k1 := (NodeAt.of_heap h).k1
  have f1 := frozen_of_row w b 1 _ _ h
  have e1 : (w.setCell ⟨b, 1, none⟩ (.int .i64 (c1 + 1))).drew.heap[b]? = some (.cells (node c0 (c1 + 1) st po fl v0 v1 da ins ip sc d) 37 (0, 0)) := heap_set h 1 (.int .i64 (c1 + 1))
  have e2 : (w.setCell ⟨b, 1, none⟩ (.int .i64 (c1 + 1))).drew.heap[pb]? = some (.cells #[.int .u8 1] 28 (0, 0)) := (heap_setCell_other w ⟨b, 1, none⟩ pb _ (Ne.symm hne)).trans hp
  have e3 : Kept (fun i => i = b ∨ i = pb) w (w.setCell ⟨b, 1, none⟩ (.int .i64 (c1 + 1))).drew := ((Kept.refl (fun i => i = b ∨ i = pb) w).setCell (a := ⟨b, _, none⟩) (.inl rfl) _).drew
  have q1 : Hid (_ ∧ _ ∧ _) := ⟨e1, e2, e3⟩
  clear e1 e2 e3 h hp
  go_enter Try.func8, Try.ntmps8
  go_wp2_with fail
  go_region
  obtain ⟨g1, g2, g3⟩ := q1.out
  clear q1 k0 k1 f1
  generalize (w.setCell ⟨b, 1, none⟩ (.int .i64 (c1 + 1))).drew = w1 at *
  have k0 := (NodeAt.of_heap g1).k0
  have k1 := (NodeAt.of_heap g1).k1
  have kp : w1.cell? ⟨pb, 0, none⟩ = some (.int .u8 1) := by simp [World.cell?, g2]
  have fp := frozen_of_row w1 pb 0 _ _ g2
  have q1 : Hid (_ ∧ _ ∧ _) := ⟨g1, g2, g3⟩
  clear g1 g2 g3
  go_wp2_with fail
  go_quiet (fail)
  go_wp2_with (go_at_call 9; (refine (extend9 b c0 (c1 + 1) st po fl v0 v1 da ins ip sc 1 d (w1.drewN nq) q1.out.1 h0 h1).mono ?_; rintro e w2 ⟨rfl, m1, m2⟩; rw [hsq.out] at m1; have s2 := (NodeAt.of_heap m1).k2; have s11 := (NodeAt.of_heap m1).k11; have f11 := frozen_of_row w2 b 11 _ _ m1; have q2 : Hid (_ ∧ _) := ⟨m1, m2⟩; clear m1 m2))
  go_end0
  refine ⟨rfl, _, heap_set q2.out.1 11 _, ?_, ?_⟩
  · refine (heap_setCell_other w2 ⟨b, 11, none⟩ pb _ (Ne.symm hne)).trans ((q2.out.2.block pb ?_ (Ne.symm hne)).trans q1.out.2.1)
    exact (Array.getElem?_eq_some_iff.1 q1.out.2.1).1
  · have := (q1.out.2.2.drewN nq).trans q2.out.2 (fun _ _ e => .inl e)
    exact this.setCell (a := ⟨b, _, none⟩) (.inl rfl) _
end Go.Proofs.Qxb6601328a
