/-
  Seat b6602130a: a keySet that was filled from nothing: what one add does to it.
-/
import Derived.Test.Qxb6602130aAdd
import Derived.Deep.DeepAppendRoom
namespace Go.Proofs.Qxb6602130a
open Go.RowKit

/-- ZZB1KeySetAdd hands on to add. -/
theorem zzadd {sb : Nat} {k : ByteArray} {w : World} {r : Bool} {R : World → Prop} (h : Calls Try.prog 26 #[.pointer (some ⟨sb, 0, none⟩), .string k] w fun e w' => e = .returned (.bool r) ∧ R w') :
    Calls Try.prog 11 #[.pointer (some ⟨sb, 0, none⟩), .string k] w fun e w' => e = .returned (.bool r) ∧ R w' := by
  have H : Hid (Calls Try.prog 26 #[.pointer (some ⟨sb, 0, none⟩), .string k] w fun e w' => e = .returned (.bool r) ∧ R w') := h
  clear h
  go_enter Try.func11, Try.ntmps11
  go_wp2_with (go_at_call 26; refine H.out.mono ?_; rintro e w1 ⟨rfl, hR⟩)
  go_ret
  exact ⟨rfl, hR⟩

/-- The keySet in block sb was filled with the distinct keys dl, in that order; its map, if there is one, lies from base on. -/
def KSt (w : World) (sb : Nat) (dl : List ByteArray) (base : Nat) : Prop :=
  ∃ m, w.rowIs sb 60 18 (kc (fun i => dl.getD i ByteArray.empty) (min 16 dl.length : Nat) m) ∧
    ((dl.length ≤ 16 ∧ m = none) ∨ (16 < dl.length ∧ ∃ b, m = some b ∧ base ≤ b ∧ MapIs w m dl true))

theorem kc_congr {f g : Nat → ByteArray} {n n' : Int} {m : Option Nat} (h : ∀ i, i < 16 → f i = g i) (hn : n = n') (i : Nat) (_ : i < 18) : kc f n m i = kc g n' m i := by
  unfold kc
  split
  · rw [h i ‹_›]
  · rw [hn]

theorem mem_getD {dl : List ByteArray} {k : ByteArray} (h : k ∈ dl) : ∃ q, q < dl.length ∧ dl.getD q ByteArray.empty = k := by
  obtain ⟨q, hq, e⟩ := List.mem_iff_getElem.1 h
  exact ⟨q, hq, by simp [List.getD, List.getElem?_eq_getElem hq, e]⟩
theorem getD_mem {dl : List ByteArray} {q : Nat} (h : q < dl.length) : dl.getD q ByteArray.empty ∈ dl := by
  simp [List.getD, List.getElem?_eq_getElem h]

theorem step_any (sb base : Nat) (dl : List ByteArray) (hd : dl.Nodup) (hl : dl.length ≤ 4096) (hds : ∀ s ∈ dl, s.size ≤ maxLen) (k : ByteArray) (hks : k.size ≤ maxLen) (w : World) (hb : base ≤ w.heap.size) (hk : KSt w sb dl base) :
    Calls Try.prog 11 #[.pointer (some ⟨sb, 0, none⟩), .string k] w fun e w' => e = .returned (.bool (memB dl k)) ∧ (KSt w' sb (add1 dl k) base ∧ Kept (fun i => i = sb ∨ base ≤ i) w w') := by
  obtain ⟨m, hrow, hm⟩ := hk
  rcases hm with ⟨h16, rfl⟩ | ⟨h16, b, rfl, hbb, hmap⟩
  · have e16 : min 16 dl.length = dl.length := by omega
    rw [e16] at hrow
    by_cases hmem : k ∈ dl
    · obtain ⟨q, hq, e⟩ := mem_getD hmem
      rw [memB_iff.2 hmem, add1_old hmem]
      refine zzadd ((add_found sb _ dl.length h16 k none true w hrow (.inl ⟨rfl, rfl⟩) q hq e).mono ?_)
      rintro e w' ⟨rfl, hkp⟩
      exact ⟨rfl, ⟨none, by rw [e16]; exact hkp.row hrow (fun h => h), .inl ⟨h16, rfl⟩⟩, hkp.mono (fun _ _ h => h.elim)⟩
    · rw [memB_not.2 hmem, add1_new hmem]
      have hno : ∀ q, q < dl.length → dl.getD q ByteArray.empty ≠ k := fun q hq e => hmem (e ▸ getD_mem hq)
      by_cases hlt : dl.length < 16
      · refine zzadd ((add_few sb _ dl.length hlt k none true w hrow (.inl ⟨rfl, rfl⟩) hno).mono ?_)
        rintro e w' ⟨rfl, hr, hkp⟩
        refine ⟨rfl, ⟨none, hr.congr (kc_congr (fun i _ => ?_) ?_), .inl ⟨by simp; omega, rfl⟩⟩, hkp.mono (fun _ _ h => .inl h)⟩
        · by_cases e : i = dl.length
          · subst e; simp [List.getD]
          · rw [if_neg e]
            simp only [List.getD]
            rcases Nat.lt_or_ge i dl.length with h | h
            · rw [List.getElem?_append_left h]
            · rw [List.getElem?_eq_none h, List.getElem?_eq_none (by simp; omega)]
        · simp; omega
      · have e16' : dl.length = 16 := by omega
        rw [e16'] at hrow hno
        refine zzadd ((add_spill_nil sb _ k hks (fun i hi => hds _ (getD_mem (by omega))) w hrow hno).mono ?_)
        rintro e w' ⟨rfl, b, hbn, hr, hmap, hkp⟩
        have ed : dist (firsts (fun i => dl.getD i ByteArray.empty) 16) = dl := by
          rw [← e16', firsts_getD, dist_nodup hd]
        rw [ed, add1_new hmem] at hmap
        refine ⟨rfl, ⟨some b, hr.congr (kc_congr (fun i hi => ?_) ?_), .inr ⟨by simp; omega, b, rfl, Nat.le_trans hb hbn, hmap⟩⟩, hkp.mono (fun _ _ h => .inl h)⟩
        · simp only [List.getD]
          rw [List.getElem?_append_left (by omega)]
        · simp; omega
  · have hL : dl ≠ [] := fun e => by subst e; simp at h16
    refine zzadd ((add_many sb _ _ k hks (some b) dl hL (by omega) true w hrow hmap).mono ?_)
    rintro e w' ⟨rfl, hr, hmap', hkp⟩
    have hle := (length_add1 dl k).1
    refine ⟨rfl, ⟨some b, hr.congr (kc_congr (fun i hi => ?_) ?_), .inr ⟨by omega, b, rfl, hbb, hmap'⟩⟩, hkp.mono (fun i _ h => .inr (by cases h; exact hbb))⟩
    · unfold add1
      split
      · rfl
      · simp only [List.getD]
        rw [List.getElem?_append_left (by omega)]
    · omega

/-- A slice of strings of the call's own. -/
theorem strs_of_own {w : World} {base g n cap : Nat} {dl : List ByteArray} (h : w.ownsRow base 9 1 (.slice (some ⟨g, 0, none⟩) n cap) n (dl.map Value.string)) (hn : n = dl.length) : StrsAt w (some ⟨g, 0, none⟩) n (fun i => dl.getD i ByteArray.empty) := by
  refine .inr ⟨g, 0, rfl, (h.lt g rfl).2, fun i hi => ?_⟩
  have hi' : i < dl.length := by omega
  have := h.cells (g := g) rfl i (.string (dl.getD i ByteArray.empty)) (by simp [List.getD, List.getElem?_eq_getElem hi'])
  have hadd : (⟨g, 0, none⟩ : Addr).add i = ⟨g, i, none⟩ := by unfold Addr.add; split <;> simp_all
  rw [hadd] at this
  rw [Nat.zero_add]
  exact this

theorem Kept.own {S : Nat → Prop} {w w' : World} {base g n cap : Nat} {e : TypeId} {size : Nat} {xs : List Value} (hk : Kept S w w') (h : w.ownsRow base e size (.slice (some ⟨g, 0, none⟩) n cap) n xs) (hg : ¬ S g) : w'.ownsRow base e size (.slice (some ⟨g, 0, none⟩) n cap) n xs := by
  have hlt := (h.lt g rfl).2
  refine ⟨h.1, ?_⟩
  rcases h.2 with ⟨e, _⟩ | ⟨g', cap', cur, e, hb, hh, r⟩
  · cases e
  · cases e
    exact .inr ⟨g, cap, cur, rfl, hb, (hk.block g hlt hg).trans hh, r⟩

theorem KSt.kept {S : Nat → Prop} {w w' : World} {sb base : Nat} {dl : List ByteArray} (h : KSt w sb dl base) (hk : Kept S w w') (hs : ¬ S sb) (hb : ∀ i, base ≤ i → ¬ S i) : KSt w' sb dl base := by
  obtain ⟨m, hrow, hm⟩ := h
  refine ⟨m, hk.row hrow hs, ?_⟩
  rcases hm with h | ⟨h16, b, rfl, hbb, hmap⟩
  · exact .inl h
  · exact .inr ⟨h16, b, rfl, hbb, hmap.kept hk (fun b' e => by cases e; exact hb b hbb)⟩

end Go.Proofs.Qxb6602130a
