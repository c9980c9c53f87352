/-
  Seat b6602130a: zzHeldAfterYdB1 (function 16) and add's fifth case: the list is full, the map is made but empty.
-/
import Derived.Test.Qxb6602130aBaseB
namespace Go.Proofs.Qxb6602130a
open Go.RowKit

theorem zero4 (w : World) : (zeroValue 4).run Try.prog w = .ok (.bool false) w := by kernel_rfl
theorem plainElem_bool_inv {v : Value} {z : DataW Unit × List MemPlace} (h : plainElem (H := Unit) Try.prog 4 v = some z) : ∃ x : Bool, v = .bool x := by
  unfold plainElem at h
  rw [Try.underlying4] at h
  cases v <;> simp at h
  exact ⟨_, rfl⟩

section
variable (w : World) {ops : Array Oper} {rest : List Oper} {o : Oper} {a : Act} {Q : Exit → Act → World → Prop}
/-- 'v, ok := m[k]' at a key that is there. -/
theorem wpList_lookup_there (hg : o.guard = none) (m x : Operand) (hop : o.op = Op.lookup 30 m x true) (b : Nat) (L : List ByteArray) (tr : Bool)
    (hm : a.eval m = .map (some b)) (hmap : MapIs w (some b) L tr) (s : ByteArray) (hx : a.eval x = .string s) (hs : s ∈ L) (hsz : s.size ≤ maxLen)
    (hK : ∀ y : Bool, wpList Try.prog ops Q rest (a.put o.dst (.tuple #[.bool y, .bool true])) w) : wpList Try.prog ops Q (o :: rest) a w := by
  rcases hmap with ⟨e, _⟩ | ⟨b', D, e, ho, hh, ht⟩
  · cases e
  · cases e
    have hhas : Maps.has D (key s) = true := by rw [hh.has]; exact memB_iff.2 hs
    refine wpList_lookup_own_ok w hg m x 30 hop 9 4 law9 Try.underlying30 (plainElem (H := Unit) Try.prog 4) (zero4 w) (.lit (.bool false)) [] (plainElem_bool Try.underlying4 false) b _ D hm ho _ _ hx (key_of hsz) (fun v ps hv => ?_)
    obtain ⟨y, rfl⟩ := plainElem_bool_inv hv
    rw [hhas]
    exact hK y
end

theorem MapIs.alloc {w : World} {m : Option Nat} {L : List ByteArray} {tr : Bool} (h : MapIs w m L tr) (o : Obj) : MapIs (w.alloc o) m L tr := h.kept ((Kept.refl (fun _ => False) w).alloc o) (fun _ _ h => h)

set_option maxHeartbeats 1000000 in
/-- The map is empty: the list is asked. -/
theorem held_few (few : Nat → ByteArray) (nn : Nat) (hn : nn ≤ 16) (m : Option Nat) (tr : Bool) (k : ByteArray) (w : World) (hmap : MapIs w m [] tr) (q : Nat) (hq : q < nn) (hk : few q = k) :
    Calls Try.prog 16 #[.agg #[.string (few 0), .string (few 1), .string (few 2), .string (few 3), .string (few 4), .string (few 5), .string (few 6), .string (few 7), .string (few 8), .string (few 9), .string (few 10), .string (few 11), .string (few 12), .string (few 13), .string (few 14), .string (few 15)], .int .i64 nn, .map m, .string k] w fun e w' => e = .returned (.bool true) ∧ Below w.heap.size w w' := by
  have hrow := World.rowIs_alloc w (few16 few) 25 (fun i => .string (few i)) (fun i hi => few16_at few i hi)
  have hcell : ∀ i, i < 16 → (w.alloc (.cells #[.string (few 0), .string (few 1), .string (few 2), .string (few 3), .string (few 4), .string (few 5), .string (few 6), .string (few 7), .string (few 8), .string (few 9), .string (few 10), .string (few 11), .string (few 12), .string (few 13), .string (few 14), .string (few 15)] 25)).cell? ⟨w.heap.size, i, none⟩ = some (.string (few i)) := fun i hi => hrow.cell hi
  have hB : Below w.heap.size w (w.alloc (.cells #[.string (few 0), .string (few 1), .string (few 2), .string (few 3), .string (few 4), .string (few 5), .string (few 6), .string (few 7), .string (few 8), .string (few 9), .string (few 10), .string (few 11), .string (few 12), .string (few 13), .string (few 14), .string (few 15)] 25)) := (Below.refl _ _).alloc (Nat.le_refl _) _
  have HL := (hmap.alloc (.cells #[.string (few 0), .string (few 1), .string (few 2), .string (few 3), .string (few 4), .string (few 5), .string (few 6), .string (few 7), .string (few 8), .string (few 9), .string (few 10), .string (few 11), .string (few 12), .string (few 13), .string (few 14), .string (few 15)] 25)).len
  have HK : Hid (few q = k) := hk
  clear hrow hk hmap
  go_enter Try.func16, Try.ntmps16
  go_wp2_with (at_len; refine wpList_len_run _ rfl _ 30 rfl _ rfl _ HL ?_)
  clear HL
  go_loop [9] (fun i => ∃ j : Nat, j ≤ q ∧ i = .int .i64 j) (fun i => 16 - (intOf i).toNat)
  case atStart => exact ⟨0, Nat.zero_le _, rfl⟩
  case round =>
    obtain ⟨j, hj, rfl⟩ := hrel
    have hcj := hcell j (by omega)
    have h1 : (j : Int) < (nn : Int) := by omega
    have h2 : (j : Int) < 16 := by omega
    clear hcell
    go_wp2
    · go_ret
      exact ⟨rfl, hB⟩
    · have h3 : ((few j).toList == k.toList) = false := by assumption
      have hne : j ≠ q := fun e => str_ne h3 (e ▸ HK.out)
      go_round
      case rel => exact ⟨j + 1, by omega, by go_num⟩
      case measure => simp [intOf]; omega

set_option maxHeartbeats 1000000 in
/-- The map is not empty: the map is asked. -/
theorem held_many (few : Nat → ByteArray) (nn : Int) (b : Nat) (L : List ByteArray) (tr : Bool) (k : ByteArray) (hks : k.size ≤ maxLen) (w : World) (hmap : MapIs w (some b) L tr) (hk : k ∈ L) :
    Calls Try.prog 16 #[.agg #[.string (few 0), .string (few 1), .string (few 2), .string (few 3), .string (few 4), .string (few 5), .string (few 6), .string (few 7), .string (few 8), .string (few 9), .string (few 10), .string (few 11), .string (few 12), .string (few 13), .string (few 14), .string (few 15)], .int .i64 nn, .map (some b), .string k] w fun e w' => e = .returned (.bool true) ∧ Below w.heap.size w w' := by
  have hB : Below w.heap.size w (w.alloc (.cells #[.string (few 0), .string (few 1), .string (few 2), .string (few 3), .string (few 4), .string (few 5), .string (few 6), .string (few 7), .string (few 8), .string (few 9), .string (few 10), .string (few 11), .string (few 12), .string (few 13), .string (few 14), .string (few 15)] 25)) := (Below.refl _ _).alloc (Nat.le_refl _) _
  have hm2 := hmap.alloc (.cells #[.string (few 0), .string (few 1), .string (few 2), .string (few 3), .string (few 4), .string (few 5), .string (few 6), .string (few 7), .string (few 8), .string (few 9), .string (few 10), .string (few 11), .string (few 12), .string (few 13), .string (few 14), .string (few 15)] 25)
  have HL := hm2.len
  have hpos : 0 < L.length := List.length_pos_of_mem hk
  have hb0 : ((L.length : Int) == 0) = false := beq_eq_false_iff_ne.2 (by omega)
  clear hmap
  go_enter Try.func16, Try.ntmps16
  go_wp2_with (first
    | (at_lookup; refine wpList_lookup_there _ rfl _ _ rfl b L tr rfl hm2 k rfl hk hks ?_; intro y)
    | (at_len; refine wpList_len_run _ rfl _ 30 rfl _ rfl _ HL ?_))
  go_ret
  exact ⟨rfl, hB⟩

set_option maxHeartbeats 2000000 in
/-- The list is full, the key is not in it, the map is made but empty. -/
theorem add_spill_some (sb b : Nat) (tr : Bool) (few : Nat → ByteArray) (k : ByteArray) (hks : k.size ≤ maxLen) (hfs : ∀ i, i < 16 → (few i).size ≤ maxLen) (w : World) (hrow : w.rowIs sb 60 18 (kc few 16 (some b))) (hmap : MapIs w (some b) [] tr) (hk : ∀ q, q < 16 → few q ≠ k) :
    Calls Try.prog 26 #[.pointer (some ⟨sb, 0, none⟩), .string k] w fun e w' => e = .returned (.bool false) ∧ w'.rowIs sb 60 18 (kc few 16 (some b)) ∧ MapIs w' (some b) (add1 (dist (firsts few 16)) k) tr ∧ Kept (fun i => i = b) w w' := by
  have hc : ∀ i, i < 16 → w.cell? ⟨sb, i, none⟩ = some (.string (few i)) := fun i hi => by rw [hrow.cell (by omega)]; simp [kc, hi]
  have hc16 : w.cell? ⟨sb, 16, none⟩ = some (.int .i64 16) := by rw [hrow.cell (by omega)]; simp [kc]
  have hc17 : w.cell? ⟨sb, 17, none⟩ = some (.map (some b)) := by rw [hrow.cell (by omega)]; simp [kc]
  have hlt := hrow.lt
  have hbs : b ≠ sb := hmap.apart hrow b rfl
  have HK : Hid (∀ q, q < 16 → few q ≠ k) := hk
  have HL := hmap.len
  have hq := q30
  clear hk
  go_enter Try.func26, Try.ntmps26
  go_wp2_with (at_len; refine wpList_len_run _ rfl _ 30 rfl _ rfl _ HL ?_)
  clear HL
  go_quiet (fail)
  go_wp2
  go_loop [25] (fun i => ∃ j : Nat, j ≤ 16 ∧ i = .int .i64 j) (fun i => 16 - (intOf i).toNat)
  case atStart => exact ⟨0, Nat.zero_le _, rfl⟩
  case round =>
    obtain ⟨j, hj, rfl⟩ := hrel
    by_cases hjn : j < 16
    · have hcj := hc j (by omega)
      have hne : ((few j).toList == k.toList) = false := by rw [str_eq]; exact decide_eq_false (HK.out j hjn)
      clear hc
      go_wp2
      go_round
      case rel => exact ⟨j + 1, by omega, by go_num⟩
      case measure => simp [intOf]; omega
    · obtain rfl : j = 16 := by omega
      have hc0 := hc 0 (by decide); have hc1 := hc 1 (by decide); have hc2 := hc 2 (by decide); have hc3 := hc 3 (by decide)
      have hc4 := hc 4 (by decide); have hc5 := hc 5 (by decide); have hc6 := hc 6 (by decide); have hc7 := hc 7 (by decide)
      have hc8 := hc 8 (by decide); have hc9 := hc 9 (by decide); have hc10 := hc 10 (by decide); have hc11 := hc 11 (by decide)
      have hc12 := hc 12 (by decide); have hc13 := hc 13 (by decide); have hc14 := hc 14 (by decide); have hc15 := hc 15 (by decide)
      clear hc
      go_wp2
      clear hc0 hc1 hc2 hc3 hc4 hc5 hc6 hc7 hc8 hc9 hc10 hc11 hc12 hc13 hc14 hc15 hc16 hc17
      go_loopw [67] (fun i wr => ∃ (j : Nat) (D : DataW Unit), j ≤ 16 ∧ i = .int .i64 j ∧ wr.ownsMap Try.prog 9 (plainElem (H := Unit) Try.prog 4) b j D ∧ Holds D (dist (firsts few j)) ∧ (tr = true → AllTrue D) ∧ wr.rowIs sb 60 18 (kc few 16 (some b)) ∧ Kept (fun i => i = b) w wr) (fun i _ => 16 - (intOf i).toNat)
      case atStart =>
        rcases hmap with ⟨e, _⟩ | ⟨b', D, e, ho, hh, ht⟩
        · cases e
        · cases e
          exact ⟨0, D, by omega, rfl, ho, hh, ht, hrow.of_block rfl, (Kept.refl _ w).drewN nq⟩
      case round =>
        obtain ⟨j, D, hj, rfl, ho, hh, ht, hrw, hkp⟩ := hrel
        have hc17r : wr.cell? ⟨sb, 17, none⟩ = some (.map (some b)) := by rw [hrw.cell (by omega)]; simp [kc]
        have HH : Hid (Holds D (dist (firsts few j)) ∧ (tr = true → AllTrue D)) := ⟨hh, ht⟩
        clear hh ht
        by_cases hjn : j < 16
        · have hidx := index_few few j hjn
          have hkey := key_of (hfs j hjn)
          go_wp2_with (at_mapUpdate; refine wpList_mapUpdate_own _ rfl _ _ _ 30 rfl 9 4 law9 Try.underlying30 (plainElem (H := Unit) Try.prog 4) b j D rfl ho (by unfold maxLen; omega) _ _ _ rfl rfl hkey _ [] (plainElem_bool Try.underlying4 true) ?_; intro w1 hown1 hgrow1)
          go_roundw
          case rel =>
            obtain ⟨hh, ht⟩ := HH.out
            exact ⟨j + 1, _, by omega, by go_num, hown1, by rw [dist_firsts_succ]; exact hh.put (few j) _, fun e => (ht e).put hh.tidy.isMap (few j), (Kept.of_grown hgrow1).row hrw (by simp; exact fun e => hbs e.symm), hkp.grown hgrow1 (fun i hi e => by simpa using e)⟩
          case measure => simp [intOf]; omega
        · obtain rfl : j = 16 := by omega
          have hkey := key_of hks
          go_wp2_with (first
            | (at_mapUpdate; refine wpList_mapUpdate_own _ rfl _ _ _ 30 rfl 9 4 law9 Try.underlying30 (plainElem (H := Unit) Try.prog 4) b 16 D rfl ho (by unfold maxLen; omega) _ _ _ rfl rfl hkey _ [] (plainElem_bool Try.underlying4 true) ?_; intro w1 hown1 hgrow1; have hc17' := hgrow1.cell hc17r (by simp; exact fun e => hbs e.symm))
            | (at_len; refine wpList_len_own _ rfl _ 30 rfl 9 4 Try.underlying30 _ b _ _ rfl ho ?_)
            | (at_len; refine wpList_len_own _ rfl _ 30 rfl 9 4 Try.underlying30 _ b _ _ rfl hown1 ?_))
          go_ret
          obtain ⟨hh, ht⟩ := HH.out
          have hh' := hh.put k (.lit (.bool true))
          refine ⟨?_, (Kept.of_grown hgrow1).row hrw (by simp; exact fun e => hbs e.symm), .inr ⟨b, _, rfl, ?_, hh', fun e => (ht e).put hh.tidy.isMap k⟩, hkp.grown hgrow1 (fun i hi e => by simpa using e)⟩
          · refine ret_bool ?_
            rw [hh'.size, hh.size, grew]
            exact memB_not.2 (fun e => by
              rw [mem_dist, mem_firsts] at e
              obtain ⟨q, hq, e⟩ := e
              exact HK.out q hq e)
          · have := tight hown1
            rw [hh'.size] at this
            exact this
end Go.Proofs.Qxb6602130a
