/-
  Seat b6602130a: the contract of (*keySet).add (function 26), in four cases, and of ZZB1KeySetAdd (function 11).
-/
import Derived.Test.Qxb6602130aBase
import Derived.Test.Qxb6602130aKept
import Derived.BigQuiet
import Derived.Deep.QuietTactic
namespace Go.Proofs.Qxb6602130a
open Go.RowKit

theorem law9 : Maps.Keyed Try.prog 9 := Maps.string_keyed Try.underlying9
theorem key_of {s : ByteArray} (h : s.size ≤ maxLen) : keyOf Try.prog 9 (.string s) = some (key s) := WideMaps.keyOf_string_mk Try.underlying9 h

/-- THE FIELD 'many' HOLDS JUST THE STRINGS OF L (a nil map: none). -/
def MapIs (w : World) (m : Option Nat) (L : List ByteArray) (tr : Bool) : Prop :=
  (m = none ∧ L = []) ∨ ∃ b D, m = some b ∧ w.ownsMap Try.prog 9 (plainElem (H := Unit) Try.prog 4) b L.length D ∧ Holds D L ∧ (tr = true → AllTrue D)

theorem tight {w : World} {b n : Nat} {D : DataW Unit} (h : w.ownsMap Try.prog 9 (plainElem (H := Unit) Try.prog 4) b n D) : w.ownsMap Try.prog 9 (plainElem (H := Unit) Try.prog 4) b (Maps.size D) D := by
  obtain ⟨es, clock, hb, F, _, rfl⟩ := h
  exact ⟨es, clock, hb, F, by simp [Maps.size, length_sorted], rfl⟩

theorem MapIs.len {w : World} {m : Option Nat} {L : List ByteArray} {tr : Bool} (h : MapIs w m L tr) (ty : TypeId) : (Builtin.len_ #[30] ty #[.map m]).run Try.prog w = .ok (.int .i64 L.length) w := by
  rcases h with ⟨rfl, rfl⟩ | ⟨b, D, rfl, ho, hh, _⟩
  · exact Maps.len_nil Try.underlying30 ty
  · rw [ho.len Try.underlying30 ty, hh.size]

theorem MapIs.kept {S : Nat → Prop} {w w' : World} {m : Option Nat} {L : List ByteArray} {tr : Bool} (h : MapIs w m L tr) (hk : Kept S w w') (hm : ∀ b, m = some b → ¬ S b) : MapIs w' m L tr := by
  rcases h with h | ⟨b, D, rfl, ho, r⟩
  · exact .inl h
  · exact .inr ⟨b, D, rfl, hk.map ho (hm b rfl), r⟩

/-- The keySet's own block is no map. -/
theorem MapIs.apart {w : World} {m : Option Nat} {L : List ByteArray} {tr : Bool} {sb n : Nat} {t : TypeId} {f : Nat → Value} (h : MapIs w m L tr) (hr : w.rowIs sb t n f) : ∀ b, m = some b → b ≠ sb := by
  rintro b rfl rfl
  rcases h with ⟨e, _⟩ | ⟨b', D, e, ⟨es, clock, hb, _⟩, _⟩
  · cases e
  · cases e
    obtain ⟨c, hc, _⟩ := hr
    rw [hb] at hc; cases hc

section
variable {P : Program} (w : World) {ops : Array Oper} {rest : List Oper} {o : Oper} {a : Act} {Q : Exit → Act → World → Prop}
/-- 'len(m)' where its run is known. -/
theorem wpList_len_run (hg : o.guard = none) (m : Operand) (t : TypeId) (hop : o.op = Op.call { callee := Callee.builtin Builtin.len, args := #[m], argTypes := #[t] })
    (v : Value) (hm : a.eval m = v) (n : Int) (hrun : ∀ ty, (Builtin.len_ #[t] ty #[v]).run P w = .ok (.int .i64 n) w)
    (hK : wpList P ops Q rest (a.put o.dst (.int .i64 n)) w) : wpList P ops Q (o :: rest) a w := by
  refine wpList_plain hg fun K' hK' => ?_
  unfold Oper.wp
  simp [execOp, hop, resolve, invoke, builtin, hm, hrun o.type, Result.andThen]
  exact hK' _ _ hK
end

theorem ret_bool {a b : Bool} (h : a = b) : Ending.returned (.bool a) = .returned (.bool b) := by rw [h]
theorem grew (L : List ByteArray) (k : ByteArray) : (((add1 L k).length : Int) == (L.length : Int)) = memB L k := by
  by_cases h : k ∈ L
  · rw [add1_old h, memB_iff.2 h]; simp
  · rw [add1_new h, memB_not.2 h]; simp; omega

theorem q30 (w : World) (r : Option Nat) : (binOp .eql 30 (.map r) (.map none)).run Try.prog w = .ok (.bool r.isNone) w := run_eql_map_nil w _ _ _ r Try.underlying30

set_option maxHeartbeats 400000 in
/-- The key is found in the list. -/
theorem add_found (sb : Nat) (few : Nat → ByteArray) (nn : Nat) (hn : nn ≤ 16) (k : ByteArray) (m : Option Nat) (tr : Bool) (w : World) (hrow : w.rowIs sb 60 18 (kc few nn m)) (hmap : MapIs w m [] tr) (q : Nat) (hq : q < nn) (hk : few q = k) :
    Calls Try.prog 26 #[.pointer (some ⟨sb, 0, none⟩), .string k] w fun e w' => e = .returned (.bool true) ∧ Kept (fun _ => False) w w' := by
  have hc : ∀ i, i < 16 → w.cell? ⟨sb, i, none⟩ = some (.string (few i)) := fun i hi => by rw [hrow.cell (by omega)]; simp [kc, hi]
  have hc16 : w.cell? ⟨sb, 16, none⟩ = some (.int .i64 nn) := by rw [hrow.cell (by omega)]; simp [kc]
  have hc17 : w.cell? ⟨sb, 17, none⟩ = some (.map m) := by rw [hrow.cell (by omega)]; simp [kc]
  have hlt := hrow.lt
  have HK : Hid (few q = k) := hk
  have hni : (nn : Int) ≤ 16 := by omega
  have HL := hmap.len
  clear hk hrow hmap
  go_enter Try.func26, Try.ntmps26
  go_wp2_with (at_len; refine wpList_len_run _ rfl _ 30 rfl _ rfl _ HL ?_)
  go_quiet (fail)
  go_wp2
  go_loop [25] (fun i => ∃ j : Nat, j ≤ q ∧ i = .int .i64 j) (fun i => 16 - (intOf i).toNat)
  case atStart => exact ⟨0, Nat.zero_le _, rfl⟩
  case round =>
    obtain ⟨j, hj, rfl⟩ := hrel
    have hcj := hc j (by omega)
    have hjn : j < nn := by omega
    clear hc
    go_wp2
    · go_ret
      exact ⟨rfl, (Kept.refl _ _).drewN _⟩
    · have h2 : ((few j).toList == k.toList) = false := by assumption
      have hne : j ≠ q := fun e => str_ne h2 (e ▸ HK.out)
      go_round
      case rel => exact ⟨j + 1, by omega, by go_num⟩
      case measure => simp [intOf]; omega

set_option maxHeartbeats 1000000 in
/-- Not found, and there is room in the list. -/
theorem add_few (sb : Nat) (few : Nat → ByteArray) (nn : Nat) (hn : nn < 16) (k : ByteArray) (m : Option Nat) (tr : Bool) (w : World) (hrow : w.rowIs sb 60 18 (kc few nn m)) (hmap : MapIs w m [] tr) (hk : ∀ q, q < nn → few q ≠ k) :
    Calls Try.prog 26 #[.pointer (some ⟨sb, 0, none⟩), .string k] w fun e w' => e = .returned (.bool false) ∧ w'.rowIs sb 60 18 (kc (fun i => if i = nn then k else few i) (nn + 1 : Nat) m) ∧ Kept (fun i => i = sb) w w' := by
  have hc : ∀ i, i < 16 → w.cell? ⟨sb, i, none⟩ = some (.string (few i)) := fun i hi => by rw [hrow.cell (by omega)]; simp [kc, hi]
  have hf : ∀ i, w.frozen? ⟨sb, i, none⟩ = false := hrow.frozen
  have hc16 : w.cell? ⟨sb, 16, none⟩ = some (.int .i64 nn) := by rw [hrow.cell (by omega)]; simp [kc]
  have hc17 : w.cell? ⟨sb, 17, none⟩ = some (.map m) := by rw [hrow.cell (by omega)]; simp [kc]
  have hlt := hrow.lt
  have HK : Hid (∀ q, q < nn → few q ≠ k) := hk
  have hni : (nn : Int) < 16 := by omega
  have hni2 : (nn : Int) ≤ 16 := by omega
  have HL := hmap.len
  clear hk hmap
  go_enter Try.func26, Try.ntmps26
  go_wp2_with (at_len; refine wpList_len_run _ rfl _ 30 rfl _ rfl _ HL ?_)
  clear HL
  go_quiet (fail)
  go_wp2
  go_loop [25] (fun i => ∃ j : Nat, j ≤ nn ∧ i = .int .i64 j) (fun i => 16 - (intOf i).toNat)
  case atStart => exact ⟨0, Nat.zero_le _, rfl⟩
  case round =>
    obtain ⟨j, hj, rfl⟩ := hrel
    by_cases hjn : j < nn
    · have hcj := hc j (by omega)
      have hne : ((few j).toList == k.toList) = false := by rw [str_eq]; exact decide_eq_false (HK.out j hjn)
      clear hc
      go_wp2
      go_round
      case rel => exact ⟨j + 1, by omega, by go_num⟩
      case measure => simp [intOf]; omega
    · obtain rfl : j = nn := by omega
      have hcj := hc j (by omega)
      have hfj := hf j
      have hf16 := hf 16
      have hne16 : (j = 16) = False := by simp; omega
      clear hc hf
      go_wp2
      go_region
      go_wp2
      go_ret
      refine ⟨rfl, ?_, (((Kept.refl (fun i => i = sb) _).drewN _).setCell (a := ⟨sb, j, none⟩) rfl _).setCell (a := ⟨sb, 16, none⟩) rfl _⟩
      have hr0 : (w.drewN (nq + 1)).rowIs sb 60 18 (kc few j m) := hrow.of_block rfl
      refine ((hr0.set j (.string k)).set 16 (.int .i64 (j + 1))).congr (fun i hi => ?_)
      by_cases e1 : i = 16
      · subst e1; simp [kc]
      · by_cases e2 : i = j
        · subst e2; simp [kc, e1, hn]
        · simp [kc, e1, e2]

set_option maxHeartbeats 1000000 in
/-- The map is not empty: the key goes into it. -/
theorem add_many (sb : Nat) (few : Nat → ByteArray) (n : Int) (k : ByteArray) (hks : k.size ≤ maxLen) (m : Option Nat) (L : List ByteArray) (hL : L ≠ []) (hLn : L.length ≤ 1048576) (tr : Bool) (w : World) (hrow : w.rowIs sb 60 18 (kc few n m)) (hmap : MapIs w m L tr) :
    Calls Try.prog 26 #[.pointer (some ⟨sb, 0, none⟩), .string k] w fun e w' => e = .returned (.bool (memB L k)) ∧ w'.rowIs sb 60 18 (kc few n m) ∧ MapIs w' m (add1 L k) tr ∧ Kept (fun i => some i = m) w w' := by
  have hc17 : w.cell? ⟨sb, 17, none⟩ = some (.map m) := by rw [hrow.cell (by omega)]; simp [kc]
  have hlt := hrow.lt
  have HL := hmap.len
  have hap := hmap.apart hrow
  have hpos : 0 < L.length := by cases L with | nil => exact absurd rfl hL | cons _ _ => simp
  have hb0 : ((L.length : Int) == 0) = false := by simp; omega
  rcases hmap with ⟨_, e⟩ | ⟨b, D, rfl, ho, hh, ht⟩
  · exact absurd e hL
  have hbs : b ≠ sb := hap b rfl
  have hkey := key_of hks
  have HK : Hid (Holds D L ∧ (tr = true → AllTrue D) ∧ L ≠ []) := ⟨hh, ht, hL⟩
  clear hh ht hL hap hks
  go_enter Try.func26, Try.ntmps26
  go_wp2_with (first
    | (at_mapUpdate; refine wpList_mapUpdate_own _ rfl _ _ _ 30 rfl 9 4 law9 Try.underlying30 (plainElem (H := Unit) Try.prog 4) b L.length D rfl ho (by unfold maxLen; omega) _ _ _ rfl rfl hkey _ [] (plainElem_bool Try.underlying4 true) ?_; intro w1 hown1 hgrow1; have hc17' := hgrow1.cell hc17 (by simp; exact fun e => hbs e.symm))
    | (at_len; refine wpList_len_run _ rfl _ 30 rfl _ rfl _ HL ?_)
    | (at_len; refine wpList_len_own _ rfl _ 30 rfl 9 4 Try.underlying30 _ b _ _ rfl hown1 ?_))
  go_ret
  obtain ⟨hh, ht, hL⟩ := HK.out
  have hh' := hh.put k (.lit (.bool true))
  have hrow' := (Kept.of_grown hgrow1).row hrow (by simp; exact fun e => hbs e.symm)
  refine ⟨?_, hrow', .inr ⟨b, _, rfl, ?_, hh', fun e => (ht e).put hh.tidy.isMap k⟩, Kept.of_grown hgrow1⟩
  · exact ret_bool (by rw [hh'.size]; exact grew L k)
  · have := tight hown1
    rw [hh'.size] at this
    exact this

theorem run_index25 (cs : Array Value) (j : Nat) (hj : j < 16) (s : ByteArray) (hv : cs[j]? = some (.string s)) (w : World) :
    (Instr.index 25 (.agg cs) (.int .i64 (j : Int))).run Try.prog w = .ok (.string s) w := by
  simp [Instr.index, run_underlying Try.underlying25, asIntOf, go_sem, part, hj, hv]
theorem index_few (few : Nat → ByteArray) (j : Nat) (hj : j < 16) (w : World) :
    (Instr.index 25 (.agg #[.string (few 0), .string (few 1), .string (few 2), .string (few 3), .string (few 4), .string (few 5), .string (few 6), .string (few 7), .string (few 8), .string (few 9), .string (few 10), .string (few 11), .string (few 12), .string (few 13), .string (few 14), .string (few 15)]) (.int .i64 (j : Int))).run Try.prog w = .ok (.string (few j)) w := by
  refine run_index25 _ j hj _ ?_ w
  have hcase : j = 0 ∨ j = 1 ∨ j = 2 ∨ j = 3 ∨ j = 4 ∨ j = 5 ∨ j = 6 ∨ j = 7 ∨ j = 8 ∨ j = 9 ∨ j = 10 ∨ j = 11 ∨ j = 12 ∨ j = 13 ∨ j = 14 ∨ j = 15 := by omega
  rcases hcase with rfl | rfl | rfl | rfl | rfl | rfl | rfl | rfl | rfl | rfl | rfl | rfl | rfl | rfl | rfl | rfl <;> rfl

/-- A block that was there, behind a draw and a new block. -/
theorem cell_drewN_alloc (w : World) (o : Obj) (b : Nat) (h : b < w.heap.size) (n i : Nat) : ((w.drewN n).alloc o).cell? ⟨b, i, none⟩ = w.cell? ⟨b, i, none⟩ :=
  World.cell?_of_block (w := w) (Below.heap_alloc (w.drewN n) o b h)
theorem frozen_drewN_alloc (w : World) (o : Obj) (b : Nat) (h : b < w.heap.size) (n i : Nat) : ((w.drewN n).alloc o).frozen? ⟨b, i, none⟩ = w.frozen? ⟨b, i, none⟩ :=
  World.frozen?_of_block (w := w) (Below.heap_alloc (w.drewN n) o b h)

theorem mk30 (w : World) : (Instr.makeMap 30 (some (.int .i64 32))).run Try.prog w = .ok (.map (some w.heap.size)) (w.alloc (.map #[] 0)) := by kernel_rfl

set_option maxHeartbeats 2000000 in
/-- The list is full, the key is not in it, there is no map yet: all goes into a new one. -/
theorem add_spill_nil (sb : Nat) (few : Nat → ByteArray) (k : ByteArray) (hks : k.size ≤ maxLen) (hfs : ∀ i, i < 16 → (few i).size ≤ maxLen) (w : World) (hrow : w.rowIs sb 60 18 (kc few 16 none)) (hk : ∀ q, q < 16 → few q ≠ k) :
    Calls Try.prog 26 #[.pointer (some ⟨sb, 0, none⟩), .string k] w fun e w' => e = .returned (.bool false) ∧ ∃ b, w.heap.size ≤ b ∧ w'.rowIs sb 60 18 (kc few 16 (some b)) ∧ MapIs w' (some b) (add1 (dist (firsts few 16)) k) true ∧ Kept (fun i => i = sb) w w' := by
  have hc : ∀ i, i < 16 → w.cell? ⟨sb, i, none⟩ = some (.string (few i)) := fun i hi => by rw [hrow.cell (by omega)]; simp [kc, hi]
  have hf17 := hrow.frozen 17
  have hc16 : w.cell? ⟨sb, 16, none⟩ = some (.int .i64 16) := by rw [hrow.cell (by omega)]; simp [kc]
  have hc17 : w.cell? ⟨sb, 17, none⟩ = some (.map none) := by rw [hrow.cell (by omega)]; simp [kc]
  have hlt := hrow.lt
  have HK : Hid (∀ q, q < 16 → few q ≠ k) := hk
  have hq := q30
  have hmk := mk30
  have hA := cell_drewN_alloc w (.map #[] 0) sb hlt
  have hAf := frozen_drewN_alloc w (.map #[] 0) sb hlt
  clear hk
  go_enter Try.func26, Try.ntmps26
  go_wp2
  go_quiet (fail)
  go_wp2
  go_loop [25] (fun i => ∃ j : Nat, j ≤ 16 ∧ i = .int .i64 j) (fun i => 16 - (intOf i).toNat)
  case atStart => exact ⟨0, Nat.zero_le _, rfl⟩
  case round =>
    obtain ⟨j, hj, rfl⟩ := hrel
    by_cases hjn : j < 16
    · have hcj := hc j (by omega)
      have hne : ((few j).toList == k.toList) = false := by rw [str_eq]; exact decide_eq_false (HK.out j hjn)
      clear hc
      go_wp2
      go_round
      case rel => exact ⟨j + 1, by omega, by go_num⟩
      case measure => simp [intOf]; omega
    · obtain rfl : j = 16 := by omega
      have hc0 := hc 0 (by decide); have hc1 := hc 1 (by decide); have hc2 := hc 2 (by decide); have hc3 := hc 3 (by decide)
      have hc4 := hc 4 (by decide); have hc5 := hc 5 (by decide); have hc6 := hc 6 (by decide); have hc7 := hc 7 (by decide)
      have hc8 := hc 8 (by decide); have hc9 := hc 9 (by decide); have hc10 := hc 10 (by decide); have hc11 := hc 11 (by decide)
      have hc12 := hc 12 (by decide); have hc13 := hc 13 (by decide); have hc14 := hc 14 (by decide); have hc15 := hc 15 (by decide)
      clear hc
      go_wp2
      clear hc0 hc1 hc2 hc3 hc4 hc5 hc6 hc7 hc8 hc9 hc10 hc11 hc12 hc13 hc14 hc15 hc16 hc17 hA hAf hf17
      go_loopw [67] (fun i wr => ∃ (j : Nat) (D : DataW Unit), j ≤ 16 ∧ i = .int .i64 j ∧ wr.ownsMap Try.prog 9 (plainElem (H := Unit) Try.prog 4) w.heap.size j D ∧ Holds D (dist (firsts few j)) ∧ AllTrue D ∧ wr.rowIs sb 60 18 (kc few 16 (some w.heap.size)) ∧ Kept (fun i => i = sb) w wr) (fun i _ => 16 - (intOf i).toNat)
      case atStart =>
        refine ⟨0, .map [], by omega, rfl, (World.ownsMap_made (w.drewN nq) Try.prog 9 _).setCell (a := ⟨sb, 17, none⟩) (by show w.heap.size ≠ sb; omega) _, holds_empty, allTrue_empty, ?_, (((Kept.refl (fun i => i = sb) w).drewN nq).alloc _).setCell (a := ⟨sb, 17, none⟩) rfl _⟩
        have hr0 : (w.drewN nq).rowIs sb 60 18 (kc few 16 none) := hrow.of_block rfl
        refine ((hr0.alloc (.map #[] 0)).set 17 (.map (some w.heap.size))).congr (fun i hi => ?_)
        by_cases e1 : i = 17
        · subst e1; simp [kc]
        · have : i < 16 ∨ i = 16 := by omega
          rcases this with h | h
          · simp [kc, h, e1]
          · subst h; simp [kc]
      case round =>
        obtain ⟨j, D, hj, rfl, ho, hh, ht, hrw, hkp⟩ := hrel
        have hc17r : wr.cell? ⟨sb, 17, none⟩ = some (.map (some w.heap.size)) := by rw [hrw.cell (by omega)]; simp [kc]
        have hbs : w.heap.size ≠ sb := by omega
        have HH : Hid (Holds D (dist (firsts few j)) ∧ AllTrue D) := ⟨hh, ht⟩
        clear hh ht
        by_cases hjn : j < 16
        · have hidx := index_few few j hjn
          have hkey := key_of (hfs j hjn)
          go_wp2_with (at_mapUpdate; refine wpList_mapUpdate_own _ rfl _ _ _ 30 rfl 9 4 law9 Try.underlying30 (plainElem (H := Unit) Try.prog 4) w.heap.size j D rfl ho (by unfold maxLen; omega) _ _ _ rfl rfl hkey _ [] (plainElem_bool Try.underlying4 true) ?_; intro w1 hown1 hgrow1)
          go_roundw
          case rel =>
            obtain ⟨hh, ht⟩ := HH.out
            exact ⟨j + 1, _, by omega, by go_num, hown1, by rw [dist_firsts_succ]; exact hh.put (few j) _, ht.put hh.tidy.isMap (few j), (Kept.of_grown hgrow1).row hrw (by simp; exact fun e => hbs e.symm), hkp.grown hgrow1 (fun i hi e => by simp at e; omega)⟩
          case measure => simp [intOf]; omega
        · obtain rfl : j = 16 := by omega
          have hkey := key_of hks
          go_wp2_with (first
            | (at_mapUpdate; refine wpList_mapUpdate_own _ rfl _ _ _ 30 rfl 9 4 law9 Try.underlying30 (plainElem (H := Unit) Try.prog 4) w.heap.size 16 D rfl ho (by unfold maxLen; omega) _ _ _ rfl rfl hkey _ [] (plainElem_bool Try.underlying4 true) ?_; intro w1 hown1 hgrow1; have hc17' := hgrow1.cell hc17r (by simp; exact fun e => hbs e.symm))
            | (at_len; refine wpList_len_own _ rfl _ 30 rfl 9 4 Try.underlying30 _ w.heap.size _ _ rfl ho ?_)
            | (at_len; refine wpList_len_own _ rfl _ 30 rfl 9 4 Try.underlying30 _ w.heap.size _ _ rfl hown1 ?_))
          go_ret
          obtain ⟨hh, ht⟩ := HH.out
          have hh' := hh.put k (.lit (.bool true))
          refine ⟨?_, w.heap.size, Nat.le_refl _, (Kept.of_grown hgrow1).row hrw (by simp; exact fun e => hbs e.symm), .inr ⟨w.heap.size, _, rfl, ?_, hh', fun _ => ht.put hh.tidy.isMap k⟩, hkp.grown hgrow1 (fun i hi e => by simp at e; omega)⟩
          · refine ret_bool ?_
            rw [hh'.size, hh.size, grew]
            exact memB_not.2 (fun e => by
              rw [mem_dist, mem_firsts] at e
              obtain ⟨q, hq, e⟩ := e
              exact HK.out q hq e)
          · have := tight hown1
            rw [hh'.size] at this
            exact this
end Go.Proofs.Qxb6602130a
