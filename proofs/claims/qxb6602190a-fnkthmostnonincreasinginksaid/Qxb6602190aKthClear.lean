/-
  Seat b6602190a: clear(counts), the whole row.
-/
import Derived.Test.Qxb6602190aKthBits
import Derived.Test.Qxb6602190aKept
import Derived.Laws.Tables
import Derived.Deep.OwnRows
import Derived.Below
namespace Go.Proofs.Qxb6602190a
open Go.RowKit

theorem Try.info3 : (Try.prog.info? 3).map (fun i => (i.zero, i.size, i.bytes)) = some (some (.int .i64 0), 1, 8) := by kernel_rfl

theorem run_clear (N n ty : Nat) (hn : 0 < n) (g : Nat → Value) (w : World) (hrow : w.rowIs N 3 n g) :
    ∃ w', (Builtin.clear_ #[55] ty #[.slice (some ⟨N, 0, none⟩) n n]).run Try.prog w = .ok (.tuple #[]) w' ∧ w'.rowIs N 3 n (fun _ => .int .i64 0) ∧ Kept (fun k => k = N) w w' := by
  obtain ⟨c, hc, hs, _⟩ := hrow
  obtain ⟨i3, hi3, hz3, hs3, hb3⟩ := info_parts Try.info3
  have hz : (zeroValue 3).run Try.prog w = .ok (.int .i64 0) w := by simp [zeroValue, typeInfo, hi3, hz3]
  have hsize : (Builtin.zeroCells #[Value.int .i64 0] n).size = n := by simp [Builtin.zeroCells]
  have hall : ∀ i, i < n → (Builtin.zeroCells #[Value.int .i64 0] n)[i]? = some (.int .i64 0) := fun i hi => by simp [Builtin.zeroCells, hi, Nat.mod_one]
  have hst := run_storeCells_from (P := Try.prog) N 3 (Builtin.zeroCells #[Value.int .i64 0] n).toList 0 c w hc (by simp [hsize, hs]) (fun v hv => by
    simp [Builtin.zeroCells] at hv
    obtain ⟨a, _, rfl⟩ := hv
    simp [Nat.mod_one, Value.oneCell'])
  refine ⟨w.setRow N (Builtin.zeroCells #[Value.int .i64 0] n), ?_, ?_, ?_⟩
  · obtain ⟨m, rfl⟩ : ∃ m, n = m + 1 := ⟨n - 1, by omega⟩
    simp only [List.take_zero, List.nil_append, Array.toArray_toList] at hst
    simp [Builtin.clear_, run_underlying Try.underlying55, hz, Value.cells, hst]
  · refine ⟨Builtin.zeroCells #[Value.int .i64 0] n, ?_, hsize, hall⟩
    simp [World.setRow, Array.getElem?_modify, hc]
  · refine ⟨rfl, rfl, rfl, by simp [World.setRow], fun k hk hne => ?_⟩
    simp only [World.setRow, Array.getElem?_modify]
    rw [if_neg (fun e => hne e.symm)]
end Go.Proofs.Qxb6602190a
