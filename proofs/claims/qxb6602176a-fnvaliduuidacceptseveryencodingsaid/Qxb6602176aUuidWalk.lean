/-
  Seat b6602176a: the walk of FnValidUUIDAcceptsEveryEncoding (function 9).
-/
import Derived.Test.Qxb6602176aEnc
import Derived.Laws.BytesArg
import Derived.Deep.WholeRow
import Derived.Deep.RegionWith
namespace Go.Proofs.Qxb6602176a
open Go.RowKit

theorem good_byte {i : Nat} {c : Int} (h : Good i c) : 0 ≤ c ∧ c ≤ 255 := by
  unfold Good at h
  split at h <;> omega

theorem strOfNums_at (xs : List Int) (i : Nat) (h : i < (strOfNums xs).size) (hx : 0 ≤ xs.getD i 0 ∧ xs.getD i 0 ≤ 255) : (((strOfNums xs)[i]'h).toNat : Int) = xs.getD i 0 := by
  have hl : i < xs.length := by rwa [strOfNums_size] at h
  have e : (strOfNums xs)[i]'h = UInt8.ofNat (xs[i]'hl).toNat := by
    show ((strOfNums xs).data[i]'h) = _
    simp [strOfNums]
  have e2 : xs.getD i 0 = xs[i]'hl := by simp [List.getD, List.getElem?_eq_getElem hl]
  rw [e2] at hx ⊢
  rw [e]
  simp
  omega

/-- The bytes f 0 .. f (n - 1). -/
def nums (f : Nat → Int) (n : Nat) : List Int := (List.range n).map f
theorem nums_len (f : Nat → Int) (n : Nat) : (nums f n).length = n := by simp [nums]
theorem nums_at (f : Nat → Int) (n i : Nat) (h : i < n) : (nums f n).getD i 0 = f i := by simp [nums, List.getD, h]

theorem conv (W : World) (b n cap : Nat) (f : Nat → Int) (hc : ∀ i, i < n → W.cell? ⟨b, i, none⟩ = some (.int .u8 (f i))) : (convert 29 9 (.slice (some ⟨b, 0, none⟩) n cap)).run Try.prog W = .ok (.string (strOfNums (nums f n))) W :=
  run_convert_bytes_arg W 29 5 Try.underlying29 Try.underlying5 b 0 n cap (nums f n) (nums_len f n) (fun i hi => by rw [Nat.zero_add, hc i hi, nums_at f n i hi]) 9 Try.underlying9

/-- The text of the sixteen bytes is right. -/
theorem law_yes (f : Nat → Int) (hf : ∀ i, i < 36 → Good i (f i)) (w : World) : Calls Try.prog 21 #[.string (strOfNums (nums f 36))] w fun e w' => e = .returned (.bool true) ∧ w' = w := by
  refine zzuuid (uuid_yes _ (by rw [strOfNums_size, nums_len]) w (fun i h => ?_))
  have hi : i < 36 := by rwa [strOfNums_size, nums_len] at h
  rw [strOfNums_at _ i h (by rw [nums_at f 36 i hi]; exact good_byte (hf i hi)), nums_at f 36 i hi]
  exact hf i hi

/-- With an 'x' at place p it is refused. -/
theorem law_x (f : Nat → Int) (hf : ∀ i, i < 36 → Good i (f i)) (p : Nat) (hp : p < 36) (w : World) : Calls Try.prog 21 #[.string (strOfNums (nums (fun i => if i = p then 120 else f i) 36))] w fun e w' => e = .returned (.bool false) ∧ w' = w := by
  have hsz : (strOfNums (nums (fun i => if i = p then 120 else f i) 36)).size = 36 := by rw [strOfNums_size, nums_len]
  refine zzuuid (uuid_x _ hsz p (by rw [hsz]; exact hp) ?_ w (fun i h hne => ?_))
  · rw [strOfNums_at _ p _ (by rw [nums_at _ 36 p hp]; simp), nums_at _ 36 p hp]; simp
  · have hi : i < 36 := by rwa [hsz] at h
    have hg := hf i hi
    rw [strOfNums_at _ i h (by rw [nums_at _ 36 i hi]; simpa [hne] using good_byte hg), nums_at _ 36 i hi]
    simpa [hne] using hg

/-- Cut short it is refused. -/
theorem law_cut (f : Nat → Int) (p : Nat) (hp : p < 36) (w : World) : Calls Try.prog 21 #[.string (strOfNums (nums f p))] w fun e w' => e = .returned (.bool false) ∧ w' = w :=
  zzuuid (uuid_len _ (by rw [strOfNums_size, nums_len]; omega) w)

theorem enc_any (cu : Array Value) (hcu : cu.size = 16) (u : Nat → Int) (hu : ∀ i, i < 16 → cu[i]? = some (.int .u8 (u i)) ∧ 0 ≤ u i ∧ u i ≤ 255) (up : Bool) (w : World) :
    Calls Try.prog 24 #[.agg cu, .bool up] w fun e w' => EncPost w e w' := by
  cases up
  · exact enc_lower cu hcu u hu w
  · exact enc_upper cu hcu u hu w

theorem Try.inf26 : (Try.prog.info? 26).map (·.size) = some 16 := by kernel_rfl
theorem Try.inf27 : (Try.prog.info? 27).map (·.size) = some 36 := by kernel_rfl

theorem cells_new (w : World) (cs : Array Value) (t : TypeId) (f : Nat → Int) (hc : ∀ i, i < 36 → cs[i]? = some (.int .u8 (f i))) (i : Nat) (hi : i < 36) : (w.alloc (.cells cs t)).cell? ⟨w.heap.size, i, none⟩ = some (.int .u8 (f i)) := by
  rw [cell_of_row _ _ _ _ _ _ (heap_alloc_new w _)]
  exact hc i hi

theorem heap_alloc_second (w : World) (A B : Obj) : ((w.alloc A).alloc B).heap[w.heap.size + 1]? = some B := by
  have := heap_alloc_new (w.alloc A) B
  simpa using this
theorem setRow_second (w : World) (A : Obj) (c c' : Array Value) (t : TypeId) : ((w.alloc A).alloc (.cells c t)).setRow (w.heap.size + 1) c' = (w.alloc A).alloc (.cells c' t) := by
  have := World.setRow_alloc_new (w.alloc A) c c' t
  simpa using this
theorem cells_second (w : World) (A : Obj) (cs : Array Value) (t : TypeId) (f : Nat → Int) (hc : ∀ i, i < 36 → cs[i]? = some (.int .u8 (f i))) (i : Nat) (hi : i < 36) : ((w.alloc A).alloc (.cells cs t)).cell? ⟨w.heap.size + 1, i, none⟩ = some (.int .u8 (f i)) := by
  rw [cell_of_row _ _ _ _ _ _ (heap_alloc_second w A _)]
  exact hc i hi
theorem frozen_second (w : World) (A : Obj) (cs : Array Value) (t : TypeId) (i : Nat) : ((w.alloc A).alloc (.cells cs t)).frozen? ⟨w.heap.size + 1, i, none⟩ = false := frozen_of_row _ _ _ _ _ (heap_alloc_second w A _)

theorem conv_x (w : World) (cs : Array Value) (f : Nat → Int) (hc : ∀ i, i < 36 → cs[i]? = some (.int .u8 (f i))) (p : Nat) (hcs : cs.size = 36) :
    (convert 29 9 (.slice (some ⟨w.heap.size + 1, 0, none⟩) 36 36)).run Try.prog ((w.alloc (.cells cs 27)).alloc (.cells (cs.setIfInBounds p (.int .u8 120)) 27)) =
      .ok (.string (strOfNums (nums (fun i => if i = p then 120 else f i) 36))) ((w.alloc (.cells cs 27)).alloc (.cells (cs.setIfInBounds p (.int .u8 120)) 27)) := by
  refine conv _ _ 36 36 _ (fun i hi => ?_)
  rw [cell_of_row _ _ _ _ _ _ (heap_alloc_second w _ _), Array.getElem?_setIfInBounds]
  by_cases e : p = i
  · subst e; simp [hcs, hi]
  · have e' : ¬ i = p := fun h => e h.symm
    simp [e, e', hc i hi]
theorem conv_cut (w : World) (cs : Array Value) (f : Nat → Int) (hc : ∀ i, i < 36 → cs[i]? = some (.int .u8 (f i))) (p : Nat) (hp : p < 36) :
    (convert 29 9 (.slice (some ⟨w.heap.size, 0, none⟩) p 36)).run Try.prog ((w.alloc (.cells cs 27)).alloc (.cells (cs.setIfInBounds p (.int .u8 120)) 27)) =
      .ok (.string (strOfNums (nums f p))) ((w.alloc (.cells cs 27)).alloc (.cells (cs.setIfInBounds p (.int .u8 120)) 27)) := by
  refine conv _ _ p 36 _ (fun i hi => ?_)
  rw [cell_of_row _ _ _ _ _ _ ((Below.heap_alloc _ _ _ (by simp)).trans (heap_alloc_new w _))]
  exact hc i (by omega)

theorem all_one {cs : Array Value} {f : Nat → Int} (hcs : cs.size = 36) (hcf : ∀ i, i < 36 → cs[i]? = some (.int .u8 (f i)) ∧ Good i (f i)) : cs.all (·.oneCell') = true := by
  rw [Array.all_eq_true]
  intro i hi
  have h1 := (hcf i (by omega)).1
  rw [Array.getElem?_eq_getElem hi] at h1
  rw [Option.some.inj h1]; rfl

set_option maxHeartbeats 1000000 in
set_option maxRecDepth 100000 in
theorem uuid_walk (cu : Array Value) (hcu : cu.size = 16) (u : Nat → Int) (hu : ∀ i, i < 16 → cu[i]? = some (.int .u8 (u i)) ∧ 0 ≤ u i ∧ u i ≤ 255) (up : Bool) (pos : Int) (w : World) :
    Calls Try.prog 9 #[.agg cu, .bool up, .int .i64 pos] w fun e w' => e = .returned (.bool true) ∧ Below w.heap.size w w' := by
  have H24 : Hid (Calls Try.prog 24 #[.agg cu, .bool up] (w.alloc (.cells cu 26)) fun e w' => EncPost (w.alloc (.cells cu 26)) e w') := enc_any cu hcu u hu up _
  have hH : (w.alloc (.cells cu 26)).heap[w.heap.size]? = some (.cells cu 26 (0, 0)) := heap_alloc_new w _
  have hi26 : (Try.prog.info? 26).map (·.size) = some cu.size := by rw [hcu]; exact Try.inf26
  clear hu
  by_cases hp : pos < 0 ∨ 36 ≤ pos
  · have dp : decide (pos < 0) = true ∨ (decide (pos < 0) = false ∧ decide (36 ≤ pos) = true) := by simp; omega
    clear hp
    rcases dp with d1 | ⟨d1, d2⟩
    all_goals
      go_enter Try.func9, Try.ntmps9
      go_wp2_with (first
        | (refine wpList_load_row rfl 26 _ rfl w.heap.size rfl 26 cu (0, 0) _ hH Try.underlying26 rfl hi26 ?_)
        | (go_at_call 24; refine H24.out.mono ?_; rintro e w1 ⟨cs, f, rfl, hcs, hcf, hb1⟩; have hcv := conv (w1.alloc (.cells cs 27)) w1.heap.size 36 36 f (fun i hi => cells_new w1 cs 27 f (fun i hi => (hcf i hi).1) i hi); have hal := all_one hcs hcf)
        | (refine wpList_store_row rfl 27 _ _ rfl w1.heap.size cs rfl rfl 27 _ (heap_alloc_new w1 _) (by rw [hcs]; exact Try.inf27) (by rw [hcs]; rfl) hal ?_; rw [World.setRow_alloc_new])
        | (go_at_call 21; refine (law_yes f (fun i hi => (hcf i hi).2) _).mono ?_; rintro e w2 ⟨rfl, hw⟩; obtain rfl := hw.symm))
      go_ret
      exact ⟨rfl, (((Below.refl _ _).alloc (Nat.le_refl _) _).trans (hb1.mono (by simp))).alloc (by have := hb1.size; simp at this; omega) _⟩
  · obtain ⟨p, rfl⟩ := Int.eq_ofNat_of_zero_le (show 0 ≤ pos by omega)
    have hp36 : p < 36 := by omega
    have d1 : decide ((p : Int) < 0) = false := by simp
    have d2 : decide ((36 : Int) ≤ p) = false := by simp; omega
    have hpI : (p : Int) < 36 := by omega
    have hpJ : (p : Int) ≤ 36 := by omega
    clear hp
    go_enter Try.func9, Try.ntmps9
    go_wp2_with (first
      | (refine wpList_load_row rfl 26 _ rfl w.heap.size rfl 26 cu (0, 0) _ hH Try.underlying26 rfl hi26 ?_)
      | (go_at_call 24; refine H24.out.mono ?_; rintro e w1 ⟨cs, f, rfl, hcs, hcf, hb1⟩; have hcv := conv (w1.alloc (.cells cs 27)) w1.heap.size 36 36 f (fun i hi => cells_new w1 cs 27 f (fun i hi => (hcf i hi).1) i hi); have hal := all_one hcs hcf; have hHA := heap_alloc_new w1 (.cells cs 27); have tok : True := trivial)
      | (have _t := tok; refine wpList_store_row rfl 27 _ _ rfl w1.heap.size cs rfl rfl 27 _ (heap_alloc_new w1 _) (by rw [hcs]; exact Try.inf27) (by rw [hcs]; rfl) hal ?_; rw [World.setRow_alloc_new]; clear tok)
      | (go_at_call_of 21 (nums f 36); refine (law_yes f (fun i hi => (hcf i hi).2) _).mono ?_; rintro e w2 ⟨rfl, hw⟩; obtain rfl := hw.symm)
      | (refine wpList_load_row rfl 27 _ rfl w1.heap.size rfl 27 cs (0, 0) _ hHA Try.underlying27 rfl (by rw [hcs]; exact Try.inf27) ?_)
      | (refine wpList_store_row rfl 27 _ _ rfl (w1.heap.size + 1) cs rfl rfl 27 _ (heap_alloc_second w1 _ _) (by rw [hcs]; exact Try.inf27) (by rw [hcs]; rfl) hal ?_; rw [setRow_second]; have hcp := cells_second w1 (.cells cs 27) cs 27 f (fun i hi => (hcf i hi).1) p hp36; have hfp := frozen_second w1 (.cells cs 27) cs 27 p; have hcv2 := conv_x w1 cs f (fun i hi => (hcf i hi).1) p hcs; have hcv3 := conv_cut w1 cs f (fun i hi => (hcf i hi).1) p hp36)
      | (go_at_call_of 21 (nums (fun i => if i = p then 120 else f i) 36); refine (law_x f (fun i hi => (hcf i hi).2) p hp36 _).mono ?_; rintro e w3 ⟨rfl, hw⟩; obtain rfl := hw.symm)
      | (go_at_call_of 21 (nums f p); refine (law_cut f p hp36 _).mono ?_; rintro e w3 ⟨rfl, hw⟩; obtain rfl := hw.symm))
    go_ret
    exact ⟨rfl, ((((Below.refl _ _).alloc (Nat.le_refl _) _).trans (hb1.mono (by simp))).alloc (by have := hb1.size; simp at this; omega) _).alloc (by have := hb1.size; simp at this ⊢; omega) _⟩
end Go.Proofs.Qxb6602176a
