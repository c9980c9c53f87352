/-
  Seat b6602190a: strings.Builder inside a chunk (functions 17 to 23): contracts.
-/
import Derived.Test.Qxb6602190aProg
import Derived.Test.Qxb6602190aKept
import Derived.WalkKit
import Derived.WalkSpells
import Derived.WalkLawsBesides
import Derived.Lib.Builder
import Derived.Lib.AppendStr
import Derived.Lib.MakeNoZero
import Derived.Laws.IdiomCopy
import Derived.BigQuiet
import Derived.Deep.QuietTactic
namespace Go.Proofs.Qxb6602190a
open Go.RowKit

theorem lies : liesAt Try.prog Try.prog.depth 48 (12290 / Try.prog.cellsOf 48) 0 44 1 = true := by kernel_rfl

theorem toU (w : World) (cb : Nat) (h : w.shape? cb = some (48, 12290)) : (convert 41 56 (.pointer (some ⟨cb, 0, none⟩))).run Try.prog w = .ok (.pointer (some ⟨cb, 0, none⟩)) w := by
  obtain ⟨j, hj, hs⟩ : ∃ j, Try.prog.info? 44 = some j ∧ j.size = 2 := by
    have h : (Try.prog.info? 44).map (·.size) = some 2 := by kernel_rfl
    exact Option.map_eq_some_iff.1 h
  exact Lib.run_to_unsafe w ⟨cb, 0, none⟩ Try.underlying41 Try.underlying56 hj (by omega) h (by show 0 < 12290; omega)
theorem fromU (w : World) (cb : Nat) (h : w.shape? cb = some (48, 12290)) : (convert 56 41 (.pointer (some ⟨cb, 0, none⟩))).run Try.prog w = .ok (.pointer (some ⟨cb, 0, none⟩)) w := by
  obtain ⟨j, hj, hs⟩ : ∃ j, Try.prog.info? 44 = some j ∧ j.size = 2 := by
    have h : (Try.prog.info? 44).map (·.size) = some 2 := by kernel_rfl
    exact Option.map_eq_some_iff.1 h
  exact Lib.run_from_unsafe w ⟨cb, 0, none⟩ Try.underlying56 Try.underlying41 hj h lies
theorem neqSelf (w : World) (a : Addr) : (binOp .neq 41 (.pointer (some a)) (.pointer (some a))).run Try.prog w = .ok (.bool false) w := by
  obtain ⟨j, hj, hs⟩ : ∃ j, Try.prog.info? 44 = some j ∧ j.size = 2 := by
    have h : (Try.prog.info? 44).map (·.size) = some 2 := by kernel_rfl
    exact Option.map_eq_some_iff.1 h
  exact Lib.run_neq_ptr_same w a Try.underlying41 hj

theorem noEscape (w : World) (x : Value) : (callFunc 22 #[x]).run Try.prog w = .ok (.value x) w := by
  rw [run_callFunc_extern Try.func22 (by kernel_rfl) (by kernel_rfl) (by kernel_rfl) (e := Extern.AbiNoEscape.same) (by kernel_rfl), Lib.run_noEscape]
  rfl

/-- copyCheck on a builder that was never written: it notes its own address. -/
theorem check_new (cb : Nat) (w : World) (hsh : w.shape? cb = some (48, 12290)) (h0 : w.cell? ⟨cb, 0, none⟩ = some (.pointer none)) (hf : w.frozen? ⟨cb, 0, none⟩ = false) :
    Calls Try.prog 20 #[.pointer (some ⟨cb, 0, none⟩)] w fun e w' => e = .returned (.tuple #[]) ∧ w' = w.setCell ⟨cb, 0, none⟩ (.pointer (some ⟨cb, 0, none⟩)) := by
  have h1 := toU w cb hsh
  have h2 := fromU w cb hsh
  have h3 := neqSelf
  have h4 := noEscape
  go_enter Try.func20, Try.ntmps20
  go_wp2
  go_end0
  exact ⟨rfl, rfl⟩

theorem check_old (cb : Nat) (w : World) (h0 : w.cell? ⟨cb, 0, none⟩ = some (.pointer (some ⟨cb, 0, none⟩))) :
    Calls Try.prog 20 #[.pointer (some ⟨cb, 0, none⟩)] w fun e w' => e = .returned (.tuple #[]) ∧ w' = w := by
  have h3 := neqSelf
  go_enter Try.func20, Try.ntmps20
  go_wp2
  go_end0
  exact ⟨rfl, rfl⟩

/-- (*Builder).Len. -/
theorem len_any (cb : Nat) (a : Option Addr) (n c : Nat) (w : World) (h : w.cell? ⟨cb, 1, none⟩ = some (.slice a n c)) :
    Calls Try.prog 18 #[.pointer (some ⟨cb, 0, none⟩)] w fun e w' => e = .returned (.int .i64 n) ∧ w' = w := by
  go_enter Try.func18, Try.ntmps18
  go_wp2
  go_ret
  exact ⟨rfl, rfl⟩

/-- The chunk in block cb: its cells C; its builder holds n bytes. -/
structure ChunkIs (w : World) (B cb : Nat) (C : Array Value) (n : Nat) : Prop where
  heap : w.heap[cb]? = some (.cells C 48 (0, 0))
  size : C.size = 12290
  addr : C[0]? = some (.pointer none) ∨ C[0]? = some (.pointer (some ⟨cb, 0, none⟩))
  buf : ∃ v bs, C[1]? = some v ∧ w.ownsRow B 5 1 v n bs

theorem ChunkIs.shape {w : World} {B cb n : Nat} {C : Array Value} (h : ChunkIs w B cb C n) : w.shape? cb = some (48, 12290) := by simp [World.shape?, h.heap, h.size]
theorem ChunkIs.cell {w : World} {B cb n : Nat} {C : Array Value} (h : ChunkIs w B cb C n) (i : Nat) : w.cell? ⟨cb, i, none⟩ = C[i]? := cell_of_row _ _ _ _ _ _ h.heap
theorem ChunkIs.frozen {w : World} {B cb n : Nat} {C : Array Value} (h : ChunkIs w B cb C n) (i : Nat) : w.frozen? ⟨cb, i, none⟩ = false := frozen_of_row _ _ _ _ _ h.heap
theorem ChunkIs.some {w : World} {B cb n : Nat} {C : Array Value} (h : ChunkIs w B cb C n) (i : Nat) (hi : i < 12290) : ∃ v, w.cell? ⟨cb, i, none⟩ = some v := by
  rw [h.cell]
  exact ⟨_, Array.getElem?_eq_getElem (by rw [h.size]; exact hi)⟩

/-- copyCheck, whatever the state. -/
theorem check_any (B cb n : Nat) (C : Array Value) (w : World) (h : ChunkIs w B cb C n) :
    Calls Try.prog 20 #[.pointer (some ⟨cb, 0, none⟩)] w fun e w' => e = .returned (.tuple #[]) ∧ (∃ C', ChunkIs w' B cb C' n ∧ C'[0]? = some (.pointer (some ⟨cb, 0, none⟩)) ∧ (∀ i, 1 ≤ i → C'[i]? = C[i]?) ∧ Kept (fun i => i = cb) w w' ∧ w'.heap.size = w.heap.size) := by
  rcases h.addr with h0 | h0
  · refine (check_new cb w h.shape ((h.cell 0).trans h0) (h.frozen 0)).mono ?_
    rintro e w' ⟨rfl, rfl⟩
    have hk : Kept (fun i => i = cb) w (w.setCell ⟨cb, 0, none⟩ (.pointer (some ⟨cb, 0, none⟩))) := (Kept.refl (fun i => i = cb) w).setCell (a := ⟨cb, 0, none⟩) rfl _
    have hC : ∀ i, 1 ≤ i → (C.setIfInBounds 0 (.pointer (some ⟨cb, 0, none⟩)))[i]? = C[i]? := fun i hi => by rw [Array.getElem?_setIfInBounds, if_neg (by omega)]
    have h00 : (C.setIfInBounds 0 (.pointer (some ⟨cb, 0, none⟩)))[0]? = some (.pointer (some ⟨cb, 0, none⟩)) := by simp [h.size]
    refine ⟨rfl, _, ⟨heap_set h.heap 0 _, by simp [h.size], .inr h00, ?_⟩, h00, hC, hk, by simp [World.setCell]⟩
    obtain ⟨v, bs, h1, h2⟩ := h.buf
    refine ⟨v, bs, (hC 1 (by omega)).trans h1, hk.own h2 (fun g hg e => ?_)⟩
    exact own_ne h2 h.heap (by decide) (e ▸ hg)
  · refine (check_old cb w ((h.cell 0).trans h0)).mono ?_
    rintro e w' ⟨rfl, rfl⟩
    exact ⟨rfl, C, h, h0, fun _ _ => rfl, Kept.refl _ _, rfl⟩

theorem Try.info5 : (Try.prog.info? 5).map (fun i => (i.zero, i.size, i.bytes)) = some (some (.int .u8 0), 1, 1) := by kernel_rfl

set_option maxHeartbeats 1000000 in
/-- (*Builder).WriteString. -/
theorem write_any (B cb n : Nat) (C : Array Value) (s : ByteArray) (w : World) (h : ChunkIs w B cb C n) (hn : n + s.size ≤ 2097152) (hB : B ≤ w.heap.size) :
    Calls Try.prog 19 #[.pointer (some ⟨cb, 0, none⟩), .string s] w fun e w' => e = .returned (.tuple #[.int .i64 s.size, .nilIface]) ∧ (∃ C', ChunkIs w' B cb C' (n + s.size) ∧ (∀ i, 2 ≤ i → C'[i]? = C[i]?) ∧ (∀ t C2 b, w.heap[b]? = some (.cells C2 t (0, 0)) → b ≠ cb → t ≠ 5 → w'.heap[b]? = some (.cells C2 t (0, 0))) ∧ Kept (fun i => B ≤ i ∨ i = cb) w w') := by
  obtain ⟨i0, hi, hz0, hz1, hz2⟩ := info_parts Try.info5
  go_enter Try.func19, Try.ntmps19
  go_wp2_with (first
    | (go_at_call 20; refine (check_any B cb n C w h).mono ?_; rintro e w1 ⟨rfl, C1, h1, h10, hC1, hk1, hs1⟩; obtain ⟨v, bs, hv, hown⟩ := h1.buf; have c1 : w1.cell? ⟨cb, 1, none⟩ = some v := (h1.cell 1).trans hv)
    | (at_builtin; refine Lib.wpList_append_own_string _ rfl _ _ 42 9 rfl B 5 i0 Try.underlying42 Try.underlying9 hi hz0 hz1 hz2 _ _ _ rfl hown s rfl ?c3 ?c4 ?c5 ?_))
  case c3 => unfold maxLen; omega
  case c4 => omega
  case c5 => omega
  intro v' w2 hown' hgrow _
  have hne : v.ownBlock ≠ some cb := own_ne hown h1.heap (by decide)
  have hh2 : w2.heap[cb]? = some (.cells C1 48 (0, 0)) := (Kept.of_grown hgrow).heap h1.heap (fun e => hne e.symm)
  have d1 : w2.cell? ⟨cb, 1, none⟩ = some v := by rw [cell_of_row _ _ _ _ _ _ hh2]; exact hv
  have f1 : w2.frozen? ⟨cb, 1, none⟩ = false := frozen_of_row _ _ _ _ _ hh2
  obtain ⟨ao, n', cap, rfl⟩ : ∃ ao n' cap, v' = .slice ao n' cap := by
    rcases hown'.2 with ⟨hv', _⟩ | ⟨g, cap, cur, hv', _⟩
    · exact ⟨none, 0, 0, hv'⟩
    · exact ⟨_, _, _, hv'⟩
  have hlt := lt_of_heap hh2
  go_wp2
  go_ret2
  have hk2 : Kept (fun i => some i = v.ownBlock) w1 w2 := Kept.of_grown hgrow
  have hk3 : Kept (fun i => i = cb) w2 (w2.setCell ⟨cb, 1, none⟩ (.slice ao n' cap)) := (Kept.refl (fun i => i = cb) w2).setCell (a := ⟨cb, 1, none⟩) rfl _
  have hne' := own_ne hown' hh2 (by decide)
  refine ⟨rfl, _, ⟨heap_set hh2 1 _, by simp [h1.size], ?_, ⟨_, _, by simp [h1.size], hk3.own hown' (fun g hg e => hne' (e ▸ hg))⟩⟩, fun i hi => ?_, fun t C2 b hb hbc ht => ?_, ?_⟩
  · right
    rw [Array.getElem?_setIfInBounds, if_neg (by omega)]
    exact h10
  · rw [Array.getElem?_setIfInBounds, if_neg (by omega)]
    exact hC1 i (by omega)
  · have e1 := hk1.heap hb hbc
    have e2 := hk2.heap e1 (fun e => own_ne hown e1 ht e.symm)
    exact hk3.heap e2 hbc
  · refine ((hk1.mono (fun i _ e => .inr e)).trans hk2 (fun i _ e => .inl (hown.lt i e.symm).1)).trans hk3 (fun i _ e => .inr e)
end Go.Proofs.Qxb6602190a
