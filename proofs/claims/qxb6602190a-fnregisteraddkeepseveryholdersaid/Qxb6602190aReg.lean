/-
  Seat b6602190a: the register: what its blocks hold, Len, Shares; the making of a chunk.
-/
import Derived.Test.Qxb6602190aGrow
import Derived.Deep.WholeRow
namespace Go.Proofs.Qxb6602190a
open Go.RowKit

def aggSize : Value → Nat
  | .agg cs => cs.size
  | _ => 0
def agg0 : Value → Option Value
  | .agg cs => cs[0]?
  | _ => none
def agg1 : Value → Option Value
  | .agg cs => cs[1]?
  | _ => none
theorem z48a : (Try.prog.info? 48).map (fun i => i.zero.map aggSize) = some (some 12290) := by kernel_rfl
theorem z48b : (Try.prog.info? 48).map (fun i => (i.zero.bind agg0, i.zero.bind agg1)) = some (some (.pointer none), some (.slice none 0 0)) := by kernel_rfl

/-- A new chunk's cells. -/
theorem zero48 : ∃ Z : Array Value, Z.size = 12290 ∧ Z[0]? = some (.pointer none) ∧ Z[1]? = some (.slice none 0 0) ∧ ∀ w, (zeroValue 48).run Try.prog w = .ok (.agg Z) w := by
  obtain ⟨i, hi, h⟩ := Option.map_eq_some_iff.1 z48a
  have hb := z48b
  rw [hi] at hb
  cases hz : i.zero with
  | none => rw [hz] at h; cases h
  | some v =>
    rw [Option.map_some] at hb
    rw [hz] at h hb
    cases v with
    | agg cs =>
      simp [aggSize, agg0, agg1] at h hb
      exact ⟨cs, h, by simpa using hb.1, by simpa using hb.2, fun w => by simp [zeroValue, typeInfo, hi, hz]⟩
    | _ => simp [aggSize] at h

/-- new(T), T's zero value said by a variable; the world that it leaves is a name. -/
theorem wpList_alloc_of {P : Program} {ops : Array Oper} {rest : List Oper} {o : Oper} {a : Act} {w : World} {Q : Exit → Act → World → Prop} (hg : o.guard = none) (dst : Option Tmp) (hdst : o.dst = dst) (t : TypeId) (ho : o.op = .alloc t)
    (Z : Array Value) (hz : (zeroValue t).run P w = .ok (.agg Z) w)
    (h : ∀ w', w'.heap[w.heap.size]? = some (.cells Z t (0, 0)) → (∀ i, i < w.heap.size → w'.heap[i]? = w.heap[i]?) → w'.os = w.os → w'.tape = w.tape → w'.output = w.output → w'.heap.size = w.heap.size + 1 → wpList P ops Q rest (a.put dst (.pointer (some ⟨w.heap.size, 0, none⟩))) w') :
    wpList P ops Q (o :: rest) a w := by
  subst hdst
  have hrun : (execOp a.eval o).run P w = .ok (.value (.pointer (some ⟨w.heap.size, 0, none⟩))) (w.alloc (.cells Z t)) := by
    unfold execOp
    rw [ho]
    simp [Instr.alloc, go_sem, hz, newVar, newRow, Value.cells]
  refine wpList_plain hg fun K hK => ?_
  unfold Oper.wp
  rw [hrun, Oper.upon_value]
  exact hK _ _ (h _ (heap_alloc_new w _) (fun i hi => Below.heap_alloc w _ i hi) rfl rfl rfl (by simp))

/-- A register of n holders: its block rb, its chunks' blocks cbs, holder i's shares sh i, no builder of more than T bytes. -/
structure RegIs (w : World) (B rb : Nat) (v : Value) (cbs : List Nat) (sh : Nat → Int) (n T : Nat) : Prop where
  reg : w.heap[rb]? = some (.cells #[v, .int .i64 n] 36 (0, 0))
  base : B ≤ rb
  own : w.ownsRow B 40 1 v cbs.length (cbs.map fun b => .pointer (some ⟨b, 0, none⟩))
  many : cbs.length * 4096 ≤ n + 4096
  room : n ≤ cbs.length * 4096
  chunk : ∀ (q b : Nat), cbs[q]? = some b → B ≤ b ∧ ∃ C a m c, w.heap[b]? = some (.cells C 48 (0, 0)) ∧ C.size = 12290 ∧ C[1]? = some (.slice a m c) ∧ m ≤ T ∧ ∀ j, j < 4096 → 4096 * q + j < n → C[4098 + j]? = some (.int .i64 (sh (4096 * q + j)))
  last : ∀ b, cbs[n / 4096]? = some b → ∃ C m, ChunkIs w B b C m ∧ m ≤ T
  apart : ∀ (q1 q2 b : Nat), cbs[q1]? = some b → cbs[q2]? = some b → q1 = q2

theorem RegIs.drewN {w : World} {B rb n T : Nat} {v : Value} {cbs : List Nat} {sh : Nat → Int} (h : RegIs w B rb v cbs sh n T) (k : Nat) : RegIs (w.drewN k) B rb v cbs sh n T :=
  ⟨h.reg, h.base, h.own, h.many, h.room, h.chunk, fun b hb => by obtain ⟨C, m, h1, h2⟩ := h.last b hb; exact ⟨C, m, ⟨h1.heap, h1.size, h1.addr, h1.buf⟩, h2⟩, h.apart⟩

/-- The row of chunks, laid open. -/
theorem RegIs.row {w : World} {B rb n T : Nat} {v : Value} {cbs : List Nat} {sh : Nat → Int} (h : RegIs w B rb v cbs sh n T) (h0 : cbs ≠ []) :
    ∃ g cap, v = .slice (some ⟨g, 0, none⟩) cbs.length cap ∧ B ≤ g ∧ g < w.heap.size ∧ cbs.length ≤ cap ∧ cap ≤ maxLen ∧ ∀ (q b : Nat), cbs[q]? = some b → w.cell? ⟨g, q, none⟩ = some (.pointer (some ⟨b, 0, none⟩)) := by
  rcases h.own.2 with ⟨_, hn⟩ | ⟨g, cap, cur, rfl, hb, hh, hle, hmax, hsz, htk⟩
  · exact absurd (List.length_eq_zero_iff.1 hn) h0
  · refine ⟨g, cap, rfl, hb, lt_of_heap hh, hle, hmax, fun q b hq => ?_⟩
    have hlt : q < cbs.length := (List.getElem?_eq_some_iff.1 hq).1
    rw [cell_of_row _ _ _ _ _ _ hh]
    have : (cur.toList.take (cbs.length * 1))[q]? = some (.pointer (some ⟨b, 0, none⟩)) := by rw [htk, List.getElem?_map, hq]; rfl
    rw [List.getElem?_take, if_pos (by omega)] at this
    simpa using this

theorem len_reg (B rb n T : Nat) (v : Value) (cbs : List Nat) (sh : Nat → Int) (w : World) (h : RegIs w B rb v cbs sh n T) :
    Calls Try.prog 13 #[.pointer (some ⟨rb, 0, none⟩)] w fun e w' => e = .returned (.int .i64 n) ∧ w' = w := by
  have c1 : w.cell? ⟨rb, 1, none⟩ = some (.int .i64 n) := by rw [cell_of_row _ _ _ _ _ _ h.reg]; rfl
  go_enter Try.func13, Try.ntmps13
  go_wp2
  go_ret
  exact ⟨rfl, rfl⟩

theorem shares_reg (B rb n T i : Nat) (v : Value) (cbs : List Nat) (sh : Nat → Int) (w : World) (h : RegIs w B rb v cbs sh n T) (hi : i < n) (hn : n ≤ 131072) :
    Calls Try.prog 15 #[.pointer (some ⟨rb, 0, none⟩), .int .i64 i] w fun e w' => e = .returned (.int .i64 (sh i)) ∧ w' = w := by
  have hq : i / 4096 < cbs.length := by have := h.room; omega
  obtain ⟨g, cap, rfl, hg, hglt, hle, hmax, hcell⟩ := h.row (fun e => by rw [e] at hq; simp at hq)
  obtain ⟨b, hb⟩ : ∃ b, cbs[i / 4096]? = some b := ⟨_, List.getElem?_eq_getElem hq⟩
  obtain ⟨hBb, C, a, m, c, hh, hsz, hC1, hm, hs⟩ := h.chunk _ b hb
  have c0 : w.cell? ⟨rb, 0, none⟩ = some (.slice (some ⟨g, 0, none⟩) cbs.length cap) := by rw [cell_of_row _ _ _ _ _ _ h.reg]; rfl
  have c1 := hcell _ b hb
  have c2 : w.cell? ⟨b, 4098 + i % 4096, none⟩ = some (.int .i64 (sh i)) := by
    rw [cell_of_row _ _ _ _ _ _ hh, hs (i % 4096) (by omega) (by omega)]
    congr 3; omega
  have hq1 : (0 : Int) ≤ (i : Int) / 4096 := by omega
  have hq2 : (i : Int) / 4096 < (cbs.length : Int) := by omega
  clear hcell hs hb hq
  go_enter Try.func15, Try.ntmps15
  go_wp2
  go_ret
  exact ⟨rfl, rfl⟩

end Go.Proofs.Qxb6602190a
