/-
  Seat b6602176a: b1EncodeUUID (function 24): its contract.
-/
import Derived.Test.Qxb6602176aUuid
import Derived.Deep.OwnRows
import Derived.Laws.CopyOwn
namespace Go.Proofs.Qxb6602176a
open Go.RowKit
set_option linter.unusedVariables false

/-- Where the digits of byte i begin. -/
def kpos (i : Nat) : Nat := 2 * i + (if 4 < i then 1 else 0) + (if 6 < i then 1 else 0) + (if 8 < i then 1 else 0) + (if 10 < i then 1 else 0)
theorem kpos_bd (i : Nat) (h : i < 16) : kpos i + 1 < 36 := by unfold kpos; split <;> split <;> split <;> split <;> omega
theorem kpos_plain : ∀ i, i < 16 → ¬ (i = 4 ∨ i = 6 ∨ i = 8 ∨ i = 10) → kpos (i + 1) = kpos i + 2 ∧ ¬ (kpos i = 8 ∨ kpos i = 13 ∨ kpos i = 18 ∨ kpos i = 23) ∧ ¬ (kpos i + 1 = 8 ∨ kpos i + 1 = 13 ∨ kpos i + 1 = 18 ∨ kpos i + 1 = 23) := by decide
theorem kpos_dash : ∀ i, i < 16 → (i = 4 ∨ i = 6 ∨ i = 8 ∨ i = 10) → kpos (i + 1) = kpos i + 3 ∧ kpos i + 2 < 36 ∧ (kpos i = 8 ∨ kpos i = 13 ∨ kpos i = 18 ∨ kpos i = 23) ∧ ¬ (kpos i + 1 = 8 ∨ kpos i + 1 = 13 ∨ kpos i + 1 = 18 ∨ kpos i + 1 = 23) ∧ ¬ (kpos i + 2 = 8 ∨ kpos i + 2 = 13 ∨ kpos i + 2 = 18 ∨ kpos i + 2 = 23) := by
  intro i _ h
  rcases h with rfl | rfl | rfl | rfl <;> decide

def IsHex (c : Int) : Prop := (48 ≤ c ∧ c ≤ 57) ∨ (97 ≤ c ∧ c ≤ 102) ∨ (65 ≤ c ∧ c ≤ 70)
theorem good_hex {p : Nat} {c : Int} (hp : ¬ (p = 8 ∨ p = 13 ∨ p = 18 ∨ p = 23)) (hc : IsHex c) : Good p c := by unfold Good; rw [if_neg hp]; exact hc
theorem good_dash {p : Nat} (hp : p = 8 ∨ p = 13 ∨ p = 18 ∨ p = 23) : Good p 45 := by unfold Good; rw [if_pos hp]

theorem hex_lower : ∀ (n : Nat) (h : n < 16), IsHex (((⟨#[48, 49, 50, 51, 52, 53, 54, 55, 56, 57, 97, 98, 99, 100, 101, 102]⟩ : ByteArray)[n]'h).toNat : Int) := by unfold IsHex; decide
theorem hex_upper : ∀ (n : Nat) (h : n < 16), IsHex (((⟨#[48, 49, 50, 51, 52, 53, 54, 55, 56, 57, 65, 66, 67, 68, 69, 70]⟩ : ByteArray)[n]'h).toNat : Int) := by unfold IsHex; decide

/-- What the function leaves. -/
def EncPost (w : World) (e : Ending) (w' : World) : Prop :=
  ∃ (cs : Array Value) (f : Nat → Int), e = .returned (.agg cs) ∧ cs.size = 36 ∧ (∀ i, i < 36 → cs[i]? = some (.int .u8 (f i)) ∧ Good i (f i)) ∧ Below w.heap.size w w'

/-- The loop's relation on the world. -/
def EncRel (w : World) (u : Nat → Int) (j : Nat) (wr : World) : Prop :=
  ∃ (f : Nat → Int) (Z : Array Value), wr.rowIs (w.heap.size + 2) 27 36 (fun p => .int .u8 (f p)) ∧ (∀ p, p < kpos j → Good p (f p)) ∧ (∀ i, i < 16 → wr.cell? ⟨w.heap.size, i, none⟩ = some (.int .u8 (u i))) ∧
    wr.heap[w.heap.size + 1]? = some (.cells Z 27 (0, 0)) ∧ Z.size = 36 ∧ Below w.heap.size w wr

/-- One byte more is written. -/
theorem EncRel.put {w : World} {u : Nat → Int} {wr : World} {f : Nat → Int} {Z : Array Value} {m : Nat} (hrow : wr.rowIs (w.heap.size + 2) 27 36 (fun p => .int .u8 (f p))) (hgood : ∀ p, p < m → Good p (f p)) (hcu : ∀ i, i < 16 → wr.cell? ⟨w.heap.size, i, none⟩ = some (.int .u8 (u i)))
    (hZ : wr.heap[w.heap.size + 1]? = some (.cells Z 27 (0, 0))) (hbel : Below w.heap.size w wr) (c : Int) (hc : Good m c) :
    ∃ f' : Nat → Int, (wr.setCell ⟨w.heap.size + 2, m, none⟩ (.int .u8 c)).rowIs (w.heap.size + 2) 27 36 (fun p => .int .u8 (f' p)) ∧ (∀ p, p < m + 1 → Good p (f' p)) ∧ (∀ i, i < 16 → (wr.setCell ⟨w.heap.size + 2, m, none⟩ (.int .u8 c)).cell? ⟨w.heap.size, i, none⟩ = some (.int .u8 (u i))) ∧
      (wr.setCell ⟨w.heap.size + 2, m, none⟩ (.int .u8 c)).heap[w.heap.size + 1]? = some (.cells Z 27 (0, 0)) ∧ Below w.heap.size w (wr.setCell ⟨w.heap.size + 2, m, none⟩ (.int .u8 c)) := by
  refine ⟨fun p => if p = m then c else f p, (hrow.set m (.int .u8 c)).congr (fun i _ => by by_cases e : i = m <;> simp [e]), fun p hp => ?_, fun i hi => ?_, ?_, hbel.setCell (by show w.heap.size ≤ w.heap.size + 2; omega) _⟩
  · by_cases e : p = m
    · subst e; simpa using hc
    · simpa [e] using hgood p (by omega)
  · refine (World.cell?_of_block (w := wr) ?_).trans (hcu i hi)
    exact heap_setCell_other wr _ _ _ (by show w.heap.size ≠ w.heap.size + 2; omega)
  · exact (heap_setCell_other wr _ _ _ (by show w.heap.size + 1 ≠ w.heap.size + 2; omega)).trans hZ

theorem zero36 : ∀ (i : Nat), i < 36 → (#[.int .u8 0, .int .u8 0, .int .u8 0, .int .u8 0, .int .u8 0, .int .u8 0, .int .u8 0, .int .u8 0, .int .u8 0, .int .u8 0, .int .u8 0, .int .u8 0, .int .u8 0, .int .u8 0, .int .u8 0, .int .u8 0, .int .u8 0, .int .u8 0, .int .u8 0, .int .u8 0, .int .u8 0, .int .u8 0, .int .u8 0, .int .u8 0, .int .u8 0, .int .u8 0, .int .u8 0, .int .u8 0, .int .u8 0, .int .u8 0, .int .u8 0, .int .u8 0, .int .u8 0, .int .u8 0, .int .u8 0, .int .u8 0] : Array Value)[i]? = some (.int .u8 0) := by
  intro i hi
  have h : (#[.int .u8 0, .int .u8 0, .int .u8 0, .int .u8 0, .int .u8 0, .int .u8 0, .int .u8 0, .int .u8 0, .int .u8 0, .int .u8 0, .int .u8 0, .int .u8 0, .int .u8 0, .int .u8 0, .int .u8 0, .int .u8 0, .int .u8 0, .int .u8 0, .int .u8 0, .int .u8 0, .int .u8 0, .int .u8 0, .int .u8 0, .int .u8 0, .int .u8 0, .int .u8 0, .int .u8 0, .int .u8 0, .int .u8 0, .int .u8 0, .int .u8 0, .int .u8 0, .int .u8 0, .int .u8 0, .int .u8 0, .int .u8 0] : Array Value) = Array.replicate 36 (.int .u8 0) := rfl
  rw [h, Array.getElem?_replicate, if_pos hi]

theorem enc_start (cu : Array Value) (u : Nat → Int) (hu : ∀ i, i < 16 → cu[i]? = some (.int .u8 (u i))) (w : World) : EncRel w u 0 (((w.alloc (.cells cu 26)).alloc (.cells #[.int .u8 0, .int .u8 0, .int .u8 0, .int .u8 0, .int .u8 0, .int .u8 0, .int .u8 0, .int .u8 0, .int .u8 0, .int .u8 0, .int .u8 0, .int .u8 0, .int .u8 0, .int .u8 0, .int .u8 0, .int .u8 0, .int .u8 0, .int .u8 0, .int .u8 0, .int .u8 0, .int .u8 0, .int .u8 0, .int .u8 0, .int .u8 0, .int .u8 0, .int .u8 0, .int .u8 0, .int .u8 0, .int .u8 0, .int .u8 0, .int .u8 0, .int .u8 0, .int .u8 0, .int .u8 0, .int .u8 0, .int .u8 0] 27)).alloc (.cells #[.int .u8 0, .int .u8 0, .int .u8 0, .int .u8 0, .int .u8 0, .int .u8 0, .int .u8 0, .int .u8 0, .int .u8 0, .int .u8 0, .int .u8 0, .int .u8 0, .int .u8 0, .int .u8 0, .int .u8 0, .int .u8 0, .int .u8 0, .int .u8 0, .int .u8 0, .int .u8 0, .int .u8 0, .int .u8 0, .int .u8 0, .int .u8 0, .int .u8 0, .int .u8 0, .int .u8 0, .int .u8 0, .int .u8 0, .int .u8 0, .int .u8 0, .int .u8 0, .int .u8 0, .int .u8 0, .int .u8 0, .int .u8 0] 27)) := by
  generalize hz : (#[.int .u8 0, .int .u8 0, .int .u8 0, .int .u8 0, .int .u8 0, .int .u8 0, .int .u8 0, .int .u8 0, .int .u8 0, .int .u8 0, .int .u8 0, .int .u8 0, .int .u8 0, .int .u8 0, .int .u8 0, .int .u8 0, .int .u8 0, .int .u8 0, .int .u8 0, .int .u8 0, .int .u8 0, .int .u8 0, .int .u8 0, .int .u8 0, .int .u8 0, .int .u8 0, .int .u8 0, .int .u8 0, .int .u8 0, .int .u8 0, .int .u8 0, .int .u8 0, .int .u8 0, .int .u8 0, .int .u8 0, .int .u8 0] : Array Value) = z
  have hzs : z.size = 36 := by rw [← hz]; rfl
  have hz0 : ∀ i, i < 36 → z[i]? = some (.int .u8 0) := fun i hi => by rw [← hz]; exact zero36 i hi
  have e2 : ((w.alloc (.cells cu 26)).alloc (.cells z 27)).heap.size = w.heap.size + 2 := by simp
  have e1 : (w.alloc (.cells cu 26)).heap.size = w.heap.size + 1 := by simp
  refine ⟨fun _ => 0, z, ?_, fun p hp => absurd hp (by simp [kpos]), fun i hi => ?_, ?_, hzs, (((Below.refl _ _).alloc (Nat.le_refl _) _).alloc (by simp) _).alloc (by simp; omega) _⟩
  · have := World.rowIs_alloc ((w.alloc (.cells cu 26)).alloc (.cells z 27)) z 27 (fun _ => .int .u8 0) (fun i hi => hz0 i (by omega))
    rw [e2, hzs] at this
    exact this
  · have h : ∀ o : Obj, (((w.alloc (.cells cu 26)).alloc (.cells z 27)).alloc o).heap[w.heap.size]? = some (.cells cu 26 (0, 0)) := fun o => by
      rw [Below.heap_alloc _ _ _ (by omega), Below.heap_alloc _ _ _ (by omega)]
      exact heap_alloc_new w _
    rw [cell_of_row _ _ _ _ _ _ (h _)]
    exact hu i hi
  · rw [Below.heap_alloc _ _ _ (by omega)]
    have := heap_alloc_new (w.alloc (.cells cu 26)) (.cells z 27)
    rw [e1] at this
    exact this

set_option maxHeartbeats 1000000 in
set_option maxRecDepth 100000 in
theorem enc_lower (cu : Array Value) (hcu : cu.size = 16) (u : Nat → Int) (hu : ∀ i, i < 16 → cu[i]? = some (.int .u8 (u i)) ∧ 0 ≤ u i ∧ u i ≤ 255) (w : World) :
    Calls Try.prog 24 #[.agg cu, .bool false] w fun e w' => EncPost w e w' := by
  go_enter Try.func24, Try.ntmps24
  go_wp2
  go_loopw [7, 8] (fun k i wr => ∃ j : Nat, j ≤ 16 ∧ i = .int .i64 j ∧ k = .int .i64 (kpos j : Nat) ∧ EncRel w u j wr) (fun _ i _ => 16 - (intOf i).toNat)
  case atStart =>
    exact ⟨0, by omega, rfl, rfl, enc_start cu u (fun i hi => (hu i hi).1) w⟩
  case round =>
    obtain ⟨j, hj, rfl, rfl, f, Z, hrow, hgood, hcu', hZ, hZs, hbel⟩ := hrel
    by_cases hlt : j < 16
    · have hcj := hcu' j hlt
      obtain ⟨_, hu0, hu1⟩ := hu j hlt
      have hkb := kpos_bd j hlt
      by_cases hd : j = 4 ∨ j = 6 ∨ j = 8 ∨ j = 10
      · obtain ⟨hk1, hk2, hk3, hk4, hk5⟩ := kpos_dash j hlt hd
        obtain ⟨kk, hkk⟩ : ∃ kk, kk = kpos j := ⟨_, rfl⟩
        rw [← hkk] at hkb hk1 hk2 hk3 hk4 hk5 hgood ⊢
        have c0 := hrow.cell (i := kk) (by omega)
        have c1 := hrow.cell (i := kk + 1) (by omega)
        have c2 := hrow.cell (i := kk + 2) (by omega)
        have f0 := hrow.frozen kk
        have f1 := hrow.frozen (kk + 1)
        have f2 := hrow.frozen (kk + 2)
        have hI0 : (kk : Int) < 36 := by omega
        have hI1 : (kk : Int) + 1 < 36 := by omega
        have hI2 : (kk : Int) + 2 < 36 := by omega
        have HF : Hid (kpos (j + 1) = kk + 3 ∧ (kk = 8 ∨ kk = 13 ∨ kk = 18 ∨ kk = 23) ∧ ¬ (kk + 1 = 8 ∨ kk + 1 = 13 ∨ kk + 1 = 18 ∨ kk + 1 = 23) ∧ ¬ (kk + 2 = 8 ∨ kk + 2 = 13 ∨ kk + 2 = 18 ∨ kk + 2 = 23) ∧ (∀ p, p < kk → Good p (f p)) ∧ (∀ i, i < 16 → wr.cell? ⟨w.heap.size, i, none⟩ = some (.int .u8 (u i))) ∧ wr.heap[w.heap.size + 1]? = some (.cells Z 27 (0, 0))) := ⟨hk1, hk3, hk4, hk5, hgood, hcu', hZ⟩
        generalize u j = x at hcj hu0 hu1
        clear hkk hcu' hgood hZ hk1 hk3 hk4 hk5
        have dd : ((j : Int) == 4) = true ∨ (((j : Int) == 4) = false ∧ ((j : Int) == 6) = true) ∨ (((j : Int) == 4) = false ∧ ((j : Int) == 6) = false ∧ ((j : Int) == 8) = true) ∨ (((j : Int) == 4) = false ∧ ((j : Int) == 6) = false ∧ ((j : Int) == 8) = false ∧ ((j : Int) == 10) = true) := by
          simp only [beq_iff_eq, beq_eq_false_iff_ne]; omega
        clear hd
        rcases dd with d4 | ⟨d4, d6⟩ | ⟨d4, d6, d8⟩ | ⟨d4, d6, d8, d10⟩
        all_goals
          go_wp2
          go_roundw
          case rel =>
            obtain ⟨hk1, hk3, hk4, hk5, hgood, hcu', hZ⟩ := HF.out
            obtain ⟨f1, hr1, hg1, hc1, hz1, hb1⟩ := EncRel.put hrow hgood hcu' hZ hbel 45 (good_dash hk3)
            obtain ⟨f2, hr2, hg2, hc2, hz2, hb2⟩ := EncRel.put hr1 hg1 hc1 hz1 hb1 _ (good_hex hk4 (hex_lower (x / 16).toNat (by omega)))
            obtain ⟨f3, hr3, hg3, hc3, hz3, hb3⟩ := EncRel.put hr2 hg2 hc2 hz2 hb2 _ (good_hex hk5 (hex_lower (x % 16).toNat (by omega)))
            exact ⟨j + 1, by omega, by go_num, by rw [hk1]; go_num, f3, Z, hr3, by rw [hk1]; exact hg3, hc3, hz3, hZs, hb3⟩
          case measure => simp [intOf]; omega
      · obtain ⟨hk1, hk3, hk4⟩ := kpos_plain j hlt hd
        obtain ⟨kk, hkk⟩ : ∃ kk, kk = kpos j := ⟨_, rfl⟩
        rw [← hkk] at hkb hk1 hk3 hk4 hgood ⊢
        have c0 := hrow.cell (i := kk) (by omega)
        have c1 := hrow.cell (i := kk + 1) (by omega)
        have f0 := hrow.frozen kk
        have f1 := hrow.frozen (kk + 1)
        have hI0 : (kk : Int) < 36 := by omega
        have hI1 : (kk : Int) + 1 < 36 := by omega
        have HF : Hid (kpos (j + 1) = kk + 2 ∧ ¬ (kk = 8 ∨ kk = 13 ∨ kk = 18 ∨ kk = 23) ∧ ¬ (kk + 1 = 8 ∨ kk + 1 = 13 ∨ kk + 1 = 18 ∨ kk + 1 = 23) ∧ (∀ p, p < kk → Good p (f p)) ∧ (∀ i, i < 16 → wr.cell? ⟨w.heap.size, i, none⟩ = some (.int .u8 (u i))) ∧ wr.heap[w.heap.size + 1]? = some (.cells Z 27 (0, 0))) := ⟨hk1, hk3, hk4, hgood, hcu', hZ⟩
        generalize u j = x at hcj hu0 hu1
        clear hkk hcu' hgood hZ hk1 hk3 hk4
        have d4 : ((j : Int) == 4) = false := beq_eq_false_iff_ne.2 (by omega)
        have d6 : ((j : Int) == 6) = false := beq_eq_false_iff_ne.2 (by omega)
        have d8 : ((j : Int) == 8) = false := beq_eq_false_iff_ne.2 (by omega)
        have d10 : ((j : Int) == 10) = false := beq_eq_false_iff_ne.2 (by omega)
        clear hd
        go_wp2
        go_roundw
        case rel =>
          obtain ⟨hk1, hk3, hk4, hgood, hcu', hZ⟩ := HF.out
          obtain ⟨f2, hr2, hg2, hc2, hz2, hb2⟩ := EncRel.put hrow hgood hcu' hZ hbel _ (good_hex hk3 (hex_lower (x / 16).toNat (by omega)))
          obtain ⟨f3, hr3, hg3, hc3, hz3, hb3⟩ := EncRel.put hr2 hg2 hc2 hz2 hb2 _ (good_hex hk4 (hex_lower (x % 16).toNat (by omega)))
          exact ⟨j + 1, by omega, by go_num, by rw [hk1]; go_num, f3, Z, hr3, by rw [hk1]; exact hg3, hc3, hz3, hZs, hb3⟩
        case measure => simp [intOf]; omega
    · obtain rfl : j = 16 := by omega
      obtain ⟨c, hc, hcs, hcf⟩ := hrow
      have hcall : c.all (·.oneCell') = true := by
        rw [Array.all_eq_true]
        intro i hi
        have h1 := hcf i (by omega)
        rw [Array.getElem?_eq_getElem hi] at h1
        rw [Option.some.inj h1]; rfl
      have hinf : (Try.prog.info? 27).map (·.size) = some 36 := by kernel_rfl
      have hc' : wr.heap[w.heap.size + 1 + 1]? = some (.cells c 27 (0, 0)) := hc
      go_wp2_with (first
        | (refine wpList_load_row rfl 27 _ rfl (w.heap.size + 1 + 1) rfl 27 c (0, 0) _ hc' Try.underlying27 rfl (by rw [hcs]; exact hinf) ?_)
        | (refine wpList_store_row rfl 27 _ _ rfl (w.heap.size + 1) c rfl rfl 27 Z hZ (by rw [hcs]; exact hinf) (by rw [hZs, hcs]) hcall ?_))
      refine bodyPost_ret (v := .agg c) (results_cell_row Try.results24 _ _ (w.heap.size + 1) 27 c (0, 0) _ rfl (setRow_heap _ _ _ _ _ _ hZ) Try.underlying27 rfl (by rw [hcs]; exact hinf)) rfl ?_
      exact ⟨c, f, rfl, hcs, fun i hi => ⟨hcf i hi, hgood i (by simpa [kpos] using hi)⟩, below_setRow hbel (by omega) _⟩

set_option maxHeartbeats 1000000 in
set_option maxRecDepth 100000 in
theorem enc_upper (cu : Array Value) (hcu : cu.size = 16) (u : Nat → Int) (hu : ∀ i, i < 16 → cu[i]? = some (.int .u8 (u i)) ∧ 0 ≤ u i ∧ u i ≤ 255) (w : World) :
    Calls Try.prog 24 #[.agg cu, .bool true] w fun e w' => EncPost w e w' := by
  go_enter Try.func24, Try.ntmps24
  go_wp2
  go_loopw [7, 8] (fun k i wr => ∃ j : Nat, j ≤ 16 ∧ i = .int .i64 j ∧ k = .int .i64 (kpos j : Nat) ∧ EncRel w u j wr) (fun _ i _ => 16 - (intOf i).toNat)
  case atStart =>
    exact ⟨0, by omega, rfl, rfl, enc_start cu u (fun i hi => (hu i hi).1) w⟩
  case round =>
    obtain ⟨j, hj, rfl, rfl, f, Z, hrow, hgood, hcu', hZ, hZs, hbel⟩ := hrel
    by_cases hlt : j < 16
    · have hcj := hcu' j hlt
      obtain ⟨_, hu0, hu1⟩ := hu j hlt
      have hkb := kpos_bd j hlt
      by_cases hd : j = 4 ∨ j = 6 ∨ j = 8 ∨ j = 10
      · obtain ⟨hk1, hk2, hk3, hk4, hk5⟩ := kpos_dash j hlt hd
        obtain ⟨kk, hkk⟩ : ∃ kk, kk = kpos j := ⟨_, rfl⟩
        rw [← hkk] at hkb hk1 hk2 hk3 hk4 hk5 hgood ⊢
        have c0 := hrow.cell (i := kk) (by omega)
        have c1 := hrow.cell (i := kk + 1) (by omega)
        have c2 := hrow.cell (i := kk + 2) (by omega)
        have f0 := hrow.frozen kk
        have f1 := hrow.frozen (kk + 1)
        have f2 := hrow.frozen (kk + 2)
        have hI0 : (kk : Int) < 36 := by omega
        have hI1 : (kk : Int) + 1 < 36 := by omega
        have hI2 : (kk : Int) + 2 < 36 := by omega
        have HF : Hid (kpos (j + 1) = kk + 3 ∧ (kk = 8 ∨ kk = 13 ∨ kk = 18 ∨ kk = 23) ∧ ¬ (kk + 1 = 8 ∨ kk + 1 = 13 ∨ kk + 1 = 18 ∨ kk + 1 = 23) ∧ ¬ (kk + 2 = 8 ∨ kk + 2 = 13 ∨ kk + 2 = 18 ∨ kk + 2 = 23) ∧ (∀ p, p < kk → Good p (f p)) ∧ (∀ i, i < 16 → wr.cell? ⟨w.heap.size, i, none⟩ = some (.int .u8 (u i))) ∧ wr.heap[w.heap.size + 1]? = some (.cells Z 27 (0, 0))) := ⟨hk1, hk3, hk4, hk5, hgood, hcu', hZ⟩
        generalize u j = x at hcj hu0 hu1
        clear hkk hcu' hgood hZ hk1 hk3 hk4 hk5
        have dd : ((j : Int) == 4) = true ∨ (((j : Int) == 4) = false ∧ ((j : Int) == 6) = true) ∨ (((j : Int) == 4) = false ∧ ((j : Int) == 6) = false ∧ ((j : Int) == 8) = true) ∨ (((j : Int) == 4) = false ∧ ((j : Int) == 6) = false ∧ ((j : Int) == 8) = false ∧ ((j : Int) == 10) = true) := by
          simp only [beq_iff_eq, beq_eq_false_iff_ne]; omega
        clear hd
        rcases dd with d4 | ⟨d4, d6⟩ | ⟨d4, d6, d8⟩ | ⟨d4, d6, d8, d10⟩
        all_goals
          go_wp2
          go_roundw
          case rel =>
            obtain ⟨hk1, hk3, hk4, hk5, hgood, hcu', hZ⟩ := HF.out
            obtain ⟨f1, hr1, hg1, hc1, hz1, hb1⟩ := EncRel.put hrow hgood hcu' hZ hbel 45 (good_dash hk3)
            obtain ⟨f2, hr2, hg2, hc2, hz2, hb2⟩ := EncRel.put hr1 hg1 hc1 hz1 hb1 _ (good_hex hk4 (hex_upper (x / 16).toNat (by omega)))
            obtain ⟨f3, hr3, hg3, hc3, hz3, hb3⟩ := EncRel.put hr2 hg2 hc2 hz2 hb2 _ (good_hex hk5 (hex_upper (x % 16).toNat (by omega)))
            exact ⟨j + 1, by omega, by go_num, by rw [hk1]; go_num, f3, Z, hr3, by rw [hk1]; exact hg3, hc3, hz3, hZs, hb3⟩
          case measure => simp [intOf]; omega
      · obtain ⟨hk1, hk3, hk4⟩ := kpos_plain j hlt hd
        obtain ⟨kk, hkk⟩ : ∃ kk, kk = kpos j := ⟨_, rfl⟩
        rw [← hkk] at hkb hk1 hk3 hk4 hgood ⊢
        have c0 := hrow.cell (i := kk) (by omega)
        have c1 := hrow.cell (i := kk + 1) (by omega)
        have f0 := hrow.frozen kk
        have f1 := hrow.frozen (kk + 1)
        have hI0 : (kk : Int) < 36 := by omega
        have hI1 : (kk : Int) + 1 < 36 := by omega
        have HF : Hid (kpos (j + 1) = kk + 2 ∧ ¬ (kk = 8 ∨ kk = 13 ∨ kk = 18 ∨ kk = 23) ∧ ¬ (kk + 1 = 8 ∨ kk + 1 = 13 ∨ kk + 1 = 18 ∨ kk + 1 = 23) ∧ (∀ p, p < kk → Good p (f p)) ∧ (∀ i, i < 16 → wr.cell? ⟨w.heap.size, i, none⟩ = some (.int .u8 (u i))) ∧ wr.heap[w.heap.size + 1]? = some (.cells Z 27 (0, 0))) := ⟨hk1, hk3, hk4, hgood, hcu', hZ⟩
        generalize u j = x at hcj hu0 hu1
        clear hkk hcu' hgood hZ hk1 hk3 hk4
        have d4 : ((j : Int) == 4) = false := beq_eq_false_iff_ne.2 (by omega)
        have d6 : ((j : Int) == 6) = false := beq_eq_false_iff_ne.2 (by omega)
        have d8 : ((j : Int) == 8) = false := beq_eq_false_iff_ne.2 (by omega)
        have d10 : ((j : Int) == 10) = false := beq_eq_false_iff_ne.2 (by omega)
        clear hd
        go_wp2
        go_roundw
        case rel =>
          obtain ⟨hk1, hk3, hk4, hgood, hcu', hZ⟩ := HF.out
          obtain ⟨f2, hr2, hg2, hc2, hz2, hb2⟩ := EncRel.put hrow hgood hcu' hZ hbel _ (good_hex hk3 (hex_upper (x / 16).toNat (by omega)))
          obtain ⟨f3, hr3, hg3, hc3, hz3, hb3⟩ := EncRel.put hr2 hg2 hc2 hz2 hb2 _ (good_hex hk4 (hex_upper (x % 16).toNat (by omega)))
          exact ⟨j + 1, by omega, by go_num, by rw [hk1]; go_num, f3, Z, hr3, by rw [hk1]; exact hg3, hc3, hz3, hZs, hb3⟩
        case measure => simp [intOf]; omega
    · obtain rfl : j = 16 := by omega
      obtain ⟨c, hc, hcs, hcf⟩ := hrow
      have hcall : c.all (·.oneCell') = true := by
        rw [Array.all_eq_true]
        intro i hi
        have h1 := hcf i (by omega)
        rw [Array.getElem?_eq_getElem hi] at h1
        rw [Option.some.inj h1]; rfl
      have hinf : (Try.prog.info? 27).map (·.size) = some 36 := by kernel_rfl
      have hc' : wr.heap[w.heap.size + 1 + 1]? = some (.cells c 27 (0, 0)) := hc
      go_wp2_with (first
        | (refine wpList_load_row rfl 27 _ rfl (w.heap.size + 1 + 1) rfl 27 c (0, 0) _ hc' Try.underlying27 rfl (by rw [hcs]; exact hinf) ?_)
        | (refine wpList_store_row rfl 27 _ _ rfl (w.heap.size + 1) c rfl rfl 27 Z hZ (by rw [hcs]; exact hinf) (by rw [hZs, hcs]) hcall ?_))
      refine bodyPost_ret (v := .agg c) (results_cell_row Try.results24 _ _ (w.heap.size + 1) 27 c (0, 0) _ rfl (setRow_heap _ _ _ _ _ _ hZ) Try.underlying27 rfl (by rw [hcs]; exact hinf)) rfl ?_
      exact ⟨c, f, rfl, hcs, fun i hi => ⟨hcf i hi, hgood i (by simpa [kpos] using hi)⟩, below_setRow hbel (by omega) _⟩

end Go.Proofs.Qxb6602176a
