/-
  Seat b6602190a: the plain law of kthMost: the k-th largest, 16 bits a time. No Go in sight.
-/
import Derived.WalkKit
namespace Go.Proofs.Qxb6602190a

/-- How many i below n have p. -/
def cnt (p : Nat → Bool) : Nat → Nat
  | 0 => 0
  | n + 1 => cnt p n + (if p n then 1 else 0)

theorem cnt_congr {p q : Nat → Bool} {n : Nat} (h : ∀ i, i < n → p i = q i) : cnt p n = cnt q n := by
  induction n with
  | zero => rfl
  | succ n ih => simp only [cnt]; rw [ih (fun i hi => h i (by omega)), h n (by omega)]

theorem cnt_le {p q : Nat → Bool} {n : Nat} (h : ∀ i, i < n → p i = true → q i = true) : cnt p n ≤ cnt q n := by
  induction n with
  | zero => exact Nat.le_refl _
  | succ n ih =>
    have h1 := ih (fun i hi => h i (by omega))
    have h2 := h n (by omega)
    simp only [cnt]
    cases hp : p n with
    | false => simp; omega
    | true => rw [h2 hp]; simp; omega

/-- Two that never meet. -/
theorem cnt_add {p q r : Nat → Bool} {n : Nat} (h : ∀ i, i < n → (if r i then 1 else 0) = (if p i then 1 else 0) + (if q i then 1 else (0 : Nat))) : cnt r n = cnt p n + cnt q n := by
  induction n with
  | zero => rfl
  | succ n ih =>
    have h1 := ih (fun i hi => h i (by omega))
    have h2 := h n (by omega)
    simp only [cnt]
    omega

theorem cnt_zero {p : Nat → Bool} {n : Nat} (h : ∀ i, i < n → p i = false) : cnt p n = 0 := by
  induction n with
  | zero => rfl
  | succ n ih => simp only [cnt]; rw [ih (fun i hi => h i (by omega)), h n (by omega)]; rfl

theorem cnt_pos {p : Nat → Bool} {n : Nat} (h : 0 < cnt p n) : ∃ i, i < n ∧ p i = true := by
  induction n with
  | zero => simp [cnt] at h
  | succ n ih =>
    simp only [cnt] at h
    cases hp : p n with
    | true => exact ⟨n, by omega, hp⟩
    | false =>
      rw [hp] at h
      obtain ⟨i, hi, hpi⟩ := ih (by simpa using h)
      exact ⟨i, by omega, hpi⟩

theorem cnt_bound (p : Nat → Bool) (n : Nat) : cnt p n ≤ n := by
  induction n with
  | zero => exact Nat.le_refl _
  | succ n ih => simp only [cnt]; split <;> omega

/-- How many are above f, and how many at f, in units of W. -/
def gtW (s : Nat → Nat) (n f W : Nat) : Nat := cnt (fun i => decide (f < s i / W)) n
def eqW (s : Nat → Nat) (n f W : Nat) : Nat := cnt (fun i => decide (s i / W = f)) n
/-- How many of those at f have the digit d, and how many a digit above d. -/
def atD (s : Nat → Nat) (n f W V d : Nat) : Nat := cnt (fun i => decide (s i / W = f) && decide (s i / V % 65536 = d)) n
def hiD (s : Nat → Nat) (n f W V d : Nat) : Nat := cnt (fun i => decide (s i / W = f) && decide (d < s i / V % 65536)) n

theorem hi_top (s : Nat → Nat) (n f W V : Nat) : hiD s n f W V 65535 = 0 := by
  refine cnt_zero (fun i _ => ?_)
  have : s i / V % 65536 < 65536 := Nat.mod_lt _ (by decide)
  simp; omega

theorem hi_next (s : Nat → Nat) (n f W V d : Nat) : hiD s n f W V d = hiD s n f W V (d + 1) + atD s n f W V (d + 1) := by
  refine cnt_add (fun i _ => ?_)
  by_cases h : s i / W = f
  · by_cases h1 : d + 1 < s i / V % 65536
    · have : ¬ s i / V % 65536 = d + 1 := by omega
      have : d < s i / V % 65536 := by omega
      simp [*]
    · by_cases h2 : s i / V % 65536 = d + 1
      · simp [*]
      · have : ¬ d < s i / V % 65536 := by omega
        simp [*]
  · simp [h]

theorem hi_all (s : Nat → Nat) (n f W V : Nat) : eqW s n f W = hiD s n f W V 0 + atD s n f W V 0 := by
  refine cnt_add (fun i _ => ?_)
  by_cases h : s i / W = f
  · by_cases h1 : 0 < s i / V % 65536
    · have : ¬ s i / V % 65536 = 0 := by omega
      simp [*]
    · have : s i / V % 65536 = 0 := by omega
      simp [*]
  · simp [h]

theorem split_div (x V : Nat) : x / V = x / (V * 65536) * 65536 + x / V % 65536 := by
  rw [← Nat.div_div_eq_div_mul]; omega

theorem eq_next (s : Nat → Nat) (n f V d : Nat) (hd : d < 65536) : eqW s n (f * 65536 + d) V = atD s n f (V * 65536) V d := by
  refine cnt_congr (fun i _ => ?_)
  have h := split_div (s i) V
  have hm : s i / V % 65536 < 65536 := Nat.mod_lt _ (by decide)
  by_cases h1 : s i / (V * 65536) = f
  · by_cases h2 : s i / V % 65536 = d
    · have : s i / V = f * 65536 + d := by rw [h1, h2] at h; exact h
      simp [h1, this, hd]
    · have : ¬ s i / V = f * 65536 + d := by rw [h1] at h; omega
      simp [h1, h2, this]
  · have : ¬ s i / V = f * 65536 + d := by omega
    simp [h1, this]

theorem gt_next (s : Nat → Nat) (n f V d : Nat) (hd : d < 65536) : gtW s n (f * 65536 + d) V = gtW s n f (V * 65536) + hiD s n f (V * 65536) V d := by
  refine cnt_add (fun i _ => ?_)
  have h := split_div (s i) V
  have hm : s i / V % 65536 < 65536 := Nat.mod_lt _ (by decide)
  by_cases h0 : f < s i / (V * 65536)
  · have h1 : ¬ s i / (V * 65536) = f := by omega
    have : f * 65536 + d < s i / V := by omega
    simp [h0, h1, this]
  · by_cases h1 : s i / (V * 65536) = f
    · by_cases h2 : d < s i / V % 65536
      · have : f * 65536 + d < s i / V := by rw [h1] at h; omega
        simp [h1, h2, this]
      · have : ¬ f * 65536 + d < s i / V := by rw [h1] at h; omega
        simp [h1, h2, this]
    · have : ¬ f * 65536 + d < s i / V := by omega
      simp [h0, h1, this]

/-- v is the k-th largest of s 0 .. s (n-1). -/
def IsKth (s : Nat → Nat) (n k v : Nat) : Prop := cnt (fun i => decide (v < s i)) n < k ∧ k ≤ cnt (fun i => decide (v < s i)) n + cnt (fun i => decide (s i = v)) n

theorem kth_mono {s : Nat → Nat} {n k u v : Nat} (hu : IsKth s n k u) (hv : IsKth s n (k + 1) v) : v ≤ u := by
  rcases Nat.lt_or_ge u v with h | h
  · exfalso
    have h1 : cnt (fun i => decide (v ≤ s i)) n = cnt (fun i => decide (v < s i)) n + cnt (fun i => decide (s i = v)) n := by
      refine cnt_add (fun i _ => ?_)
      by_cases h1 : v < s i
      · have : ¬ s i = v := by omega
        have : v ≤ s i := by omega
        simp [*]
      · by_cases h2 : s i = v
        · simp [h2]
        · have : ¬ v ≤ s i := by omega
          simp [*]
    have h2 : cnt (fun i => decide (v ≤ s i)) n ≤ cnt (fun i => decide (u < s i)) n := cnt_le (fun i _ hi => by simp at hi ⊢; omega)
    have := hu.1
    have := hv.2
    omega
  · exact h

/-- The state ahead of a round. -/
structure KSt (s : Nat → Nat) (n k f W k' : Nat) : Prop where
  sum : gtW s n f W + k' = k
  pos : 1 ≤ k'
  le : k' ≤ eqW s n f W

theorem KSt.next {s : Nat → Nat} {n k f V k' d k2 : Nat} (h : KSt s n k f (V * 65536) k') (hd : d < 65536) (hk : k2 + hiD s n f (V * 65536) V d = k') (h1 : 1 ≤ k2) (h2 : k2 ≤ atD s n f (V * 65536) V d) : KSt s n k (f * 65536 + d) V k2 := by
  refine ⟨?_, h1, ?_⟩
  · rw [gt_next s n f V d hd]; have := h.sum; omega
  · rw [eq_next s n f V d hd]; exact h2

theorem KSt.done {s : Nat → Nat} {n k f k' : Nat} (h : KSt s n k f 1 k') : IsKth s n k f := by
  have h1 := h.sum
  have h2 := h.pos
  have h3 := h.le
  simp only [gtW, eqW, Nat.div_one] at h1 h3
  exact ⟨by omega, by omega⟩

theorem KSt.start {s : Nat → Nat} {n k W : Nat} (hs : ∀ i, i < n → s i < W) (h1 : 1 ≤ k) (h2 : k ≤ n) : KSt s n k 0 W k := by
  have e0 : gtW s n 0 W = 0 := cnt_zero (fun i hi => by simp [Nat.div_eq_of_lt (hs i hi)])
  have e1 : eqW s n 0 W = n := by
    unfold eqW
    clear e0 h2
    induction n with
    | zero => rfl
    | succ n ih => simp only [cnt]; rw [ih (fun i hi => hs i (by omega))]; simp [Nat.div_eq_of_lt (hs n (by omega))]
  exact ⟨by omega, h1, by omega⟩
end Go.Proofs.Qxb6602190a
