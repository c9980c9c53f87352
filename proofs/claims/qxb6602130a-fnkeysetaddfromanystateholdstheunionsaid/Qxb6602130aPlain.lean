/-
  Seat b6602130a: the plain side: lists of distinct keys, and a map that holds just them. No program here.
-/
import Derived.Maps.OwnSet
namespace Go.Proofs.Qxb6602130a
open Go.Maps (Tidy IsMap)

/-- A string as a map's key. -/
def key (s : ByteArray) : Lit := .string s.data.toList
theorem key_ne {a b : ByteArray} (h : a ≠ b) : key a ≠ key b := fun e => h (WideShapes.bytes_inj (by simpa [key] using e))
theorem key_lit (s : ByteArray) : WideAt.IsKeyLit (key s) := trivial

def memB (L : List ByteArray) (s : ByteArray) : Bool := L.any (fun t => decide (t = s))
theorem memB_iff {L : List ByteArray} {s : ByteArray} : memB L s = true ↔ s ∈ L := by
  unfold memB
  rw [List.any_eq_true]
  exact ⟨fun ⟨x, hx, e⟩ => (of_decide_eq_true e) ▸ hx, fun h => ⟨s, h, decide_eq_true rfl⟩⟩
theorem memB_not {L : List ByteArray} {s : ByteArray} : memB L s = false ↔ s ∉ L := by
  rw [← memB_iff, Bool.not_eq_true]
theorem memB_congr {L M : List ByteArray} {s : ByteArray} (h : s ∈ L ↔ s ∈ M) : memB L s = memB M s := by
  rw [Bool.eq_iff_iff, memB_iff, memB_iff]; exact h
/-- A list without repeats, one more string added. -/
def add1 (L : List ByteArray) (s : ByteArray) : List ByteArray := if memB L s then L else L ++ [s]
theorem add1_old {L : List ByteArray} {s : ByteArray} (h : s ∈ L) : add1 L s = L := if_pos (memB_iff.2 h)
theorem add1_new {L : List ByteArray} {s : ByteArray} (h : s ∉ L) : add1 L s = L ++ [s] := if_neg (fun e => h (memB_iff.1 e))
theorem mem_add1 {L : List ByteArray} {s t : ByteArray} : t ∈ add1 L s ↔ t ∈ L ∨ t = s := by
  by_cases h : s ∈ L
  · rw [add1_old h]
    exact ⟨.inl, fun e => e.elim id (fun e => e ▸ h)⟩
  · rw [add1_new h]; simp
theorem nodup_add1 {L : List ByteArray} (hL : L.Nodup) (s : ByteArray) : (add1 L s).Nodup := by
  by_cases h : s ∈ L
  · rw [add1_old h]; exact hL
  · rw [add1_new h, List.nodup_append]
    exact ⟨hL, by simp, fun a ha b hb e => by simp at hb; subst hb; subst e; exact h ha⟩
theorem length_add1 (L : List ByteArray) (s : ByteArray) : L.length ≤ (add1 L s).length ∧ (add1 L s).length ≤ L.length + 1 := by
  unfold add1; split <;> simp

/-- The distinct ones, in the order of their first places. -/
def dist (l : List ByteArray) : List ByteArray := l.foldl add1 []
theorem dist_snoc (l : List ByteArray) (s : ByteArray) : dist (l ++ [s]) = add1 (dist l) s := by simp [dist, List.foldl_append]
theorem nodup_fold : ∀ (l L : List ByteArray), L.Nodup → (l.foldl add1 L).Nodup
  | [], _, h => h
  | x :: r, L, h => nodup_fold r (add1 L x) (nodup_add1 h x)
theorem nodup_dist (l : List ByteArray) : (dist l).Nodup := nodup_fold l [] (by simp)
theorem mem_fold (t : ByteArray) : ∀ (l L : List ByteArray), t ∈ l.foldl add1 L ↔ t ∈ L ∨ t ∈ l
  | [], _ => by simp
  | x :: r, L => by
    rw [List.foldl_cons, mem_fold t r, mem_add1, List.mem_cons]
    constructor
    · rintro ((h | h) | h)
      · exact .inl h
      · exact .inr (.inl h)
      · exact .inr (.inr h)
    · rintro (h | h | h)
      · exact .inl (.inl h)
      · exact .inl (.inr h)
      · exact .inr h
theorem mem_dist (l : List ByteArray) (t : ByteArray) : t ∈ dist l ↔ t ∈ l := by rw [dist, mem_fold]; simp
theorem fold_nodup : ∀ (l L : List ByteArray), (L ++ l).Nodup → l.foldl add1 L = L ++ l
  | [], L, _ => by simp
  | x :: r, L, h => by
    have hx : x ∉ L := fun hx => (List.nodup_append.1 h).2.2 x hx x (by simp) rfl
    rw [List.foldl_cons, add1_new hx, fold_nodup r (L ++ [x]) (by simpa using h)]
    simp
theorem dist_nodup {l : List ByteArray} (h : l.Nodup) : dist l = l := by
  have := fold_nodup l [] (by simpa using h)
  simpa [dist] using this
theorem length_fold : ∀ (l L : List ByteArray), (l.foldl add1 L).length ≤ L.length + l.length
  | [], _ => by simp
  | x :: r, L => by
    have h1 := length_fold r (add1 L x)
    have h2 := (length_add1 L x).2
    simp only [List.foldl_cons, List.length_cons]
    omega
theorem length_dist (l : List ByteArray) : (dist l).length ≤ l.length := by
  have := length_fold l []
  simpa [dist] using this

/-- The first n of a family, as a list. -/
def firsts (f : Nat → ByteArray) (n : Nat) : List ByteArray := (List.range n).map f
theorem firsts_succ (f : Nat → ByteArray) (n : Nat) : firsts f (n + 1) = firsts f n ++ [f n] := by simp [firsts, List.range_succ]
theorem length_firsts (f : Nat → ByteArray) (n : Nat) : (firsts f n).length = n := by simp [firsts]
theorem mem_firsts (f : Nat → ByteArray) (n : Nat) (t : ByteArray) : t ∈ firsts f n ↔ ∃ q, q < n ∧ f q = t := by simp [firsts]
theorem firsts_congr {f g : Nat → ByteArray} {n : Nat} (h : ∀ i, i < n → f i = g i) : firsts f n = firsts g n := by
  unfold firsts
  exact List.map_congr_left (fun i hi => h i (List.mem_range.1 hi))
theorem firsts_getD (l : List ByteArray) : firsts (fun i => l.getD i ByteArray.empty) l.length = l := by
  apply List.ext_getElem
  · simp [firsts]
  · intro i h1 h2
    simp [firsts, List.getD, List.getElem?_eq_getElem h2]
theorem dist_firsts_succ (f : Nat → ByteArray) (n : Nat) : dist (firsts f (n + 1)) = add1 (dist (firsts f n)) (f n) := by rw [firsts_succ, dist_snoc]

/-- The map D holds just the strings of L. -/
structure Holds (D : DataW Unit) (L : List ByteArray) : Prop where
  tidy : Tidy D
  nodup : L.Nodup
  has : ∀ s, Maps.has D (key s) = memB L s
  size : Maps.size D = L.length

theorem holds_empty : Holds (.map []) [] := ⟨Maps.tidy_empty, by simp, fun s => rfl, rfl⟩

theorem Holds.put {D : DataW Unit} {L : List ByteArray} (h : Holds D L) (s : ByteArray) (d : DataW Unit) : Holds (D.put (key s) d) (add1 L s) := by
  refine ⟨h.tidy.put (key_lit s) d, nodup_add1 h.nodup s, fun t => ?_, ?_⟩
  · by_cases e : t = s
    · subst e
      rw [Maps.has_put_same h.tidy.isMap (key_lit t)]
      exact (memB_iff.2 (mem_add1.2 (.inr rfl))).symm
    · rw [Maps.has_put_other (key_ne e), h.has t]
      exact memB_congr (by rw [mem_add1]; simp [e])
  · rw [Maps.size_put h.tidy, h.has s]
    by_cases e : s ∈ L
    · simp [add1_old e, memB_iff.2 e, h.size]
    · simp [add1_new e, memB_not.2 e, h.size]

/-- .. each with the element true. -/
def AllTrue (D : DataW Unit) : Prop := ∀ s, Maps.has D (key s) = true → D.atKey (key s) (.lit (.bool false)) = .lit (.bool true)
theorem allTrue_empty : AllTrue (.map []) := fun s h => by simp [Maps.has] at h
theorem AllTrue.put {D : DataW Unit} (h : AllTrue D) (hD : IsMap D) (s : ByteArray) : AllTrue (D.put (key s) (.lit (.bool true))) := fun t ht => by
  by_cases e : t = s
  · subst e
    exact Maps.atKey_put_same hD (key_lit t) _ _
  · rw [Maps.atKey_put_other (key_ne e)]
    exact h t (by rw [Maps.has_put_other (key_ne e)] at ht; exact ht)

end Go.Proofs.Qxb6602130a
