/-
  Seat b6602130a: one add on a keySet of any state.
-/
import Derived.Test.Qxb6602130aHeld
namespace Go.Proofs.Qxb6602130a
open Go.RowKit

theorem MapIs.below {w w' : World} {m : Option Nat} {L : List ByteArray} {tr : Bool} (h : MapIs w m L tr) (hb : Below w.heap.size w w') : MapIs w' m L tr := by
  rcases h with h | ⟨b, D, rfl, ho, r⟩
  · exact .inl h
  · have := ho.lt
    exact .inr ⟨b, D, rfl, (Kept.of_below hb).map ho (by omega), r⟩

/-- What a keySet of these fields holds: the list's keys while the map is empty, the map's keys once it is not. -/
def Says (few : Nat → ByteArray) (n : Int) (L dl : List ByteArray) : Prop :=
  (L = [] ∧ ∃ nn : Nat, nn ≤ 16 ∧ n = nn ∧ dist (firsts few nn) = dl) ∨ (L = dl ∧ dl ≠ [])

/-- The keySet in block sb holds just the keys dl. -/
def After (w : World) (sb : Nat) (dl : List ByteArray) : Prop :=
  ∃ few n m L, w.rowIs sb 60 18 (kc few n m) ∧ MapIs w m L false ∧ Says few n L dl

theorem step2 (sb : Nat) (few : Nat → ByteArray) (n : Int) (m : Option Nat) (L dl : List ByteArray) (hfs : ∀ i, i < 16 → (few i).size ≤ maxLen) (hl : dl.length ≤ 1048576) (k : ByteArray) (hks : k.size ≤ maxLen) (w : World)
    (hrow : w.rowIs sb 60 18 (kc few n m)) (hmap : MapIs w m L false) (hsay : Says few n L dl) :
    Calls Try.prog 11 #[.pointer (some ⟨sb, 0, none⟩), .string k] w fun e w' => e = .returned (.bool (memB dl k)) ∧ (After w' sb (add1 dl k) ∧ Kept (fun i => i = sb ∨ some i = m) w w') := by
  rcases hsay with ⟨rfl, nn, hnn, rfl, hd⟩ | ⟨rfl, hne⟩
  · have hmem : k ∈ dl ↔ ∃ q, q < nn ∧ few q = k := by rw [← hd, mem_dist, mem_firsts]
    by_cases hk : k ∈ dl
    · obtain ⟨q, hq, e⟩ := hmem.1 hk
      rw [memB_iff.2 hk, add1_old hk]
      refine zzadd ((add_found sb few nn hnn k m false w hrow hmap q hq e).mono ?_)
      rintro e w' ⟨rfl, hkp⟩
      exact ⟨rfl, ⟨few, nn, m, [], hkp.row hrow (fun h => h), hmap.kept hkp (fun _ _ h => h), .inl ⟨rfl, nn, hnn, rfl, hd⟩⟩, hkp.mono (fun _ _ h => h.elim)⟩
    · have hno : ∀ q, q < nn → few q ≠ k := fun q hq e => hk (hmem.2 ⟨q, hq, e⟩)
      rw [memB_not.2 hk]
      by_cases hlt : nn < 16
      · refine zzadd ((add_few sb few nn hlt k m false w hrow hmap hno).mono ?_)
        rintro e w' ⟨rfl, hr, hkp⟩
        refine ⟨rfl, ⟨_, _, m, [], hr, hmap.kept hkp (fun b hb => hmap.apart hrow b hb), .inl ⟨rfl, nn + 1, hlt, rfl, ?_⟩⟩, hkp.mono (fun _ _ h => .inl h)⟩
        rw [dist_firsts_succ, if_pos rfl, ← hd]
        rw [firsts_congr (f := fun i => if i = nn then k else few i) (g := few) (fun i hi => if_neg (by omega))]
      · obtain rfl : nn = 16 := by omega
        cases m with
        | none =>
          refine zzadd ((add_spill_nil sb few k hks hfs w hrow hno).mono ?_)
          rintro e w' ⟨rfl, b, hbn, hr, hmap', hkp⟩
          rw [hd] at hmap'
          refine ⟨rfl, ⟨few, _, some b, _, hr, ?_, .inr ⟨rfl, ?_⟩⟩, hkp.mono (fun _ _ h => .inl h)⟩
          · rcases hmap' with ⟨e, _⟩ | ⟨b', D, e, ho, hh, _⟩
            · cases e
            · exact .inr ⟨b', D, e, ho, hh, fun e => by cases e⟩
          · intro e
            have : k ∈ add1 dl k := mem_add1.2 (.inr rfl)
            rw [e] at this
            cases this
        | some b =>
          refine zzadd ((add_spill_some sb b false few k hks hfs w hrow hmap hno).mono ?_)
          rintro e w' ⟨rfl, hr, hmap', hkp⟩
          rw [hd] at hmap'
          refine ⟨rfl, ⟨few, _, some b, _, hr, hmap', .inr ⟨rfl, ?_⟩⟩, hkp.mono (fun _ _ h => .inr (by rw [h]))⟩
          intro e
          have : k ∈ add1 dl k := mem_add1.2 (.inr rfl)
          rw [e] at this
          cases this
  · refine zzadd ((add_many sb few n k hks m L hne hl false w hrow hmap).mono ?_)
    rintro e w' ⟨rfl, hr, hmap', hkp⟩
    refine ⟨rfl, ⟨few, n, m, _, hr, hmap', .inr ⟨rfl, ?_⟩⟩, hkp.mono (fun _ _ h => .inr h)⟩
    intro e
    have : k ∈ add1 L k := mem_add1.2 (.inr rfl)
    rw [e] at this
    cases this

end Go.Proofs.Qxb6602130a
