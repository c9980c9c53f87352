/-
  Seat b6602190a: what (*Register).Add leaves, off the pieces (no walk).
-/
import Derived.Test.Qxb6602190aReg
namespace Go.Proofs.Qxb6602190a
open Go.RowKit

/-- Behind Add's first statement: there is a chunk with room. -/
def AddMid (w0 w : World) (B rb : Nat) (sh : Nat → Int) (n T : Nat) : Prop :=
  ∃ v cbs, RegIs w B rb v cbs sh n T ∧ n < cbs.length * 4096 ∧ Kept (fun i => B ≤ i) w0 w

/-- Behind the three stores. -/
def Stored (w wx : World) (b j : Nat) (x : Int) (C : Array Value) : Prop :=
  ∃ C2, wx.heap[b]? = some (.cells C2 48 (0, 0)) ∧ C2.size = 12290 ∧ C2[0]? = C[0]? ∧ C2[1]? = C[1]? ∧ C2[4098 + j]? = some (.int .i64 x) ∧ (∀ i, 4098 ≤ i → i < 8194 → i ≠ 4098 + j → C2[i]? = C[i]?) ∧ Kept (fun i => i = b) w wx

def RegAt (w0 w : World) (B rb : Nat) (sh : Nat → Int) (n T : Nat) : Prop :=
  ∃ v cbs, RegIs w B rb v cbs sh n T ∧ cbs.length * 4096 < n + 4096 ∧ Kept (fun i => B ≤ i) w0 w

theorem own_slice {w : World} {base : Nat} {e : TypeId} {size : Nat} {v : Value} {n : Nat} {xs : List Value} (h : w.ownsRow base e size v n xs) : ∃ a c, v = .slice a n c := by
  rcases h.2 with ⟨rfl, rfl⟩ | ⟨g, cap, cur, rfl, _⟩
  · exact ⟨_, _, rfl⟩
  · exact ⟨_, _, rfl⟩

theorem own_keep {w w' : World} {base : Nat} {e : TypeId} {size : Nat} {v : Value} {n : Nat} {xs : List Value} (h : w.ownsRow base e size v n xs)
    (hk : ∀ g C, v.ownBlock = some g → w.heap[g]? = some (.cells C e (0, 0)) → w'.heap[g]? = some (.cells C e (0, 0))) : w'.ownsRow base e size v n xs := by
  refine ⟨h.1, ?_⟩
  rcases h.2 with hn | ⟨g, cap, cur, rfl, hb, hh, r⟩
  · exact .inl hn
  · exact .inr ⟨g, cap, cur, rfl, hb, hk g cur rfl hh, r⟩

theorem ne_of_type {w : World} {b1 b2 : Nat} {C1 C2 : Array Value} {t1 t2 : TypeId} {f1 f2 : Nat × Nat} (h1 : w.heap[b1]? = some (.cells C1 t1 f1)) (h2 : w.heap[b2]? = some (.cells C2 t2 f2)) (hne : t1 ≠ t2) : b1 ≠ b2 := by
  rintro rfl
  rw [h1] at h2
  cases h2
  exact hne rfl

theorem stored_of (w : World) (b j : Nat) (x : Int) (y z : Value) (C : Array Value) (h : w.heap[b]? = some (.cells C 48 (0, 0))) (hs : C.size = 12290) (hj : j < 4096) :
    Stored w (((w.setCell ⟨b, 2 + j, none⟩ y).setCell ⟨b, 4098 + j, none⟩ (.int .i64 x)).setCell ⟨b, 8194 + j, none⟩ z).drew b j x C := by
  refine ⟨_, heap_set (heap_set (heap_set h _ _) _ _) _ _, by simp [hs], ?_, ?_, ?_, ?_, ?_⟩
  · rw [Array.getElem?_setIfInBounds, if_neg (by omega), Array.getElem?_setIfInBounds, if_neg (by omega), Array.getElem?_setIfInBounds, if_neg (by omega)]
  · rw [Array.getElem?_setIfInBounds, if_neg (by omega), Array.getElem?_setIfInBounds, if_neg (by omega), Array.getElem?_setIfInBounds, if_neg (by omega)]
  · rw [Array.getElem?_setIfInBounds, if_neg (by omega), Array.getElem?_setIfInBounds, if_pos rfl, if_pos (by simp [hs]; omega)]
  · intro i h1 h2 h3
    rw [Array.getElem?_setIfInBounds, if_neg (by omega), Array.getElem?_setIfInBounds, if_neg (by omega), Array.getElem?_setIfInBounds, if_neg (by omega)]
  · exact ((((Kept.refl (fun i => i = b) w).setCell (a := ⟨b, 2 + j, none⟩) rfl _).setCell (a := ⟨b, 4098 + j, none⟩) rfl _).setCell (a := ⟨b, 8194 + j, none⟩) rfl _).drew

/-- What Add leaves, off the pieces of its last statements. -/
theorem add_close {w0 wc w1 wx : World} {B rb b n T m k : Nat} {v : Value} {cbs : List Nat} {sh : Nat → Int} {x : Int} {C C1 : Array Value}
    (hk : Kept (fun i => B ≤ i) w0 wc) (hr : RegIs wc B rb v cbs sh n T) (hb : cbs[n / 4096]? = some b) (hch : ChunkIs wc B b C m) (hm : m ≤ T)
    (h1 : ChunkIs w1 B b C1 (m + k)) (hC1 : ∀ i, 2 ≤ i → C1[i]? = C[i]?)
    (hty : ∀ t C2 b', wc.heap[b']? = some (.cells C2 t (0, 0)) → b' ≠ b → t ≠ 5 → w1.heap[b']? = some (.cells C2 t (0, 0)))
    (hk1 : Kept (fun i => B ≤ i ∨ i = b) wc w1) (hst : Stored w1 wx b (n % 4096) x C1) :
    RegAt w0 (wx.setCell ⟨rb, 1, none⟩ (.int .i64 ((n : Int) + 1))) B rb (fun i => if i = n then x else sh i) (n + 1) (T + k) := by
  obtain ⟨C2, hx, hs2, e0, e1, ex, eo, hkx⟩ := hst
  have hBb := (hr.chunk _ b hb).1
  have hrb : rb ≠ b := ne_of_type hr.reg hch.heap (by decide)
  have step : ∀ t D b', wc.heap[b']? = some (.cells D t (0, 0)) → b' ≠ b → t ≠ 5 → wx.heap[b']? = some (.cells D t (0, 0)) := fun t D b' h2 h3 h4 => hkx.heap (hty t D b' h2 h3 h4) h3
  have hxr := step _ _ _ hr.reg hrb (by decide)
  have hkf : Kept (fun i => i = rb) wx (wx.setCell ⟨rb, 1, none⟩ (.int .i64 ((n : Int) + 1))) := (Kept.refl (fun i => i = rb) wx).setCell (a := ⟨rb, 1, none⟩) rfl _
  have stepf : ∀ t D b', wc.heap[b']? = some (.cells D t (0, 0)) → b' ≠ b → b' ≠ rb → t ≠ 5 → (wx.setCell ⟨rb, 1, none⟩ (.int .i64 ((n : Int) + 1))).heap[b']? = some (.cells D t (0, 0)) := fun t D b' h2 h3 h4 h5 => hkf.heap (step t D b' h2 h3 h5) h4
  have hbf : (wx.setCell ⟨rb, 1, none⟩ (.int .i64 ((n : Int) + 1))).heap[b]? = some (.cells C2 48 (0, 0)) := hkf.heap hx (fun e => hrb e.symm)
  have hlen : cbs.length ≤ n / 4096 + 1 := by have := hr.many; omega
  obtain ⟨vb, bs, hvb, hob⟩ := h1.buf
  obtain ⟨ab, cb', rfl⟩ := own_slice hob
  have hcf : ChunkIs (wx.setCell ⟨rb, 1, none⟩ (.int .i64 ((n : Int) + 1))) B b C2 (m + k) := by
    refine ⟨hbf, hs2, by rw [e0]; exact h1.addr, _, bs, e1.trans hvb, own_keep hob (fun g D hg hh => ?_)⟩
    have n1 : g ≠ b := ne_of_type hh h1.heap (by decide)
    have h2 := hkx.heap hh n1
    exact hkf.heap h2 (ne_of_type h2 hxr (by decide))
  refine ⟨v, cbs, ⟨?_, hr.base, ?_, ?_, ?_, ?_, ?_, hr.apart⟩, ?_, ?_⟩
  · have := heap_set hxr 1 (.int .i64 ((n : Int) + 1))
    simpa using this
  · exact own_keep hr.own (fun g D hg hh => stepf _ _ _ hh (ne_of_type hh hch.heap (by decide)) (ne_of_type hh hr.reg (by decide)) (by decide))
  · have := hr.many; omega
  · have h2 := (List.getElem?_eq_some_iff.1 hb).1; omega
  · intro q b' hq
    by_cases hqn : q = n / 4096
    · subst hqn
      rw [hb] at hq
      obtain rfl := Option.some.inj hq
      refine ⟨hBb, C2, ab, m + k, cb', hbf, hs2, e1.trans hvb, by omega, fun j hj hlt => ?_⟩
      by_cases hjn : j = n % 4096
      · subst hjn
        rw [ex, if_pos (by omega)]
      · obtain ⟨_, C', a', m', c', hh', hs', hc', hm', hsh⟩ := hr.chunk _ b hb
        rw [hch.heap] at hh'
        cases hh'
        rw [eo _ (by omega) (by omega) (by omega), hC1 _ (by omega), hsh j hj (by omega), if_neg (by omega)]
    · obtain ⟨hB', C', a', m', c', hh', hs', hc', hm', hsh⟩ := hr.chunk _ b' hq
      have hne : b' ≠ b := fun e => hqn (hr.apart q (n / 4096) b (e ▸ hq) hb)
      have hqlt : q < cbs.length := (List.getElem?_eq_some_iff.1 hq).1
      refine ⟨hB', C', a', m', c', stepf _ _ _ hh' hne (ne_of_type hh' hr.reg (by decide)) (by decide), hs', hc', by omega, fun j hj hlt => ?_⟩
      rw [hsh j hj (by omega), if_neg (by omega)]
  · intro b' hq
    have hqlt : (n + 1) / 4096 < cbs.length := (List.getElem?_eq_some_iff.1 hq).1
    have : (n + 1) / 4096 = n / 4096 := by omega
    rw [this, hb] at hq
    obtain rfl := Option.some.inj hq
    exact ⟨C2, m + k, hcf, by omega⟩
  · have := hr.many; omega
  · exact ((hk.trans hk1 (fun i _ e => e.elim id (fun e => e ▸ hBb))).trans hkx (fun i _ e => e ▸ hBb)).trans hkf (fun i _ e => e ▸ hr.base)

/-- What the opening of a new chunk leaves. -/
theorem open_close {w w2 w5 : World} {B rb cb n T len : Nat} {v v' : Value} {cbs : List Nat} {sh : Nat → Int} {Z : Array Value} {o : Obj}
    (h : RegIs w B rb v cbs sh n T) (hlen : cbs.length * 4096 = n) (hcb : w.heap.size ≤ cb) (hBw : B ≤ w.heap.size) (hk2 : Kept (fun _ => False) w w2) (hch : ChunkIs w2 B cb Z 0) (hl : cbs.length = len)
    (hown : w5.ownsRow B 40 1 v' (len + 1) (cbs.map (fun b => Value.pointer (some ⟨b, 0, none⟩)) ++ [.pointer (some ⟨cb, 0, none⟩)])) (hg : (w2.alloc o).grownBy w5 v.ownBlock) :
    AddMid w (w5.setCell ⟨rb, 0, none⟩ v') B rb sh n T := by
  subst hl
  have hr2 := hk2.heap h.reg id
  have hv2 : w2.ownsRow B 40 1 v cbs.length (cbs.map fun b => .pointer (some ⟨b, 0, none⟩)) := hk2.own h.own (fun _ _ e => e)
  have hk5 : Kept (fun i => some i = v.ownBlock) w2 w5 := ((Kept.refl (fun i => some i = v.ownBlock) w2).alloc o).trans (Kept.of_grown hg) (fun _ _ e => e)
  have step : ∀ (t : TypeId) (D : Array Value) (b' : Nat), w2.heap[b']? = some (.cells D t (0, 0)) → t ≠ 40 → w5.heap[b']? = some (.cells D t (0, 0)) := fun t D b' h2 h3 => hk5.heap h2 (fun e => own_ne hv2 h2 h3 e.symm)
  have hr5 := step _ _ _ hr2 (by decide)
  have hkf : Kept (fun i => i = rb) w5 (w5.setCell ⟨rb, 0, none⟩ v') := (Kept.refl (fun i => i = rb) w5).setCell (a := ⟨rb, 0, none⟩) rfl _
  have stepf : ∀ (t : TypeId) (D : Array Value) (b' : Nat), w2.heap[b']? = some (.cells D t (0, 0)) → t ≠ 40 → t ≠ 36 → (w5.setCell ⟨rb, 0, none⟩ v').heap[b']? = some (.cells D t (0, 0)) := fun t D b' h2 h3 h4 => hkf.heap (step t D b' h2 h3) (ne_of_type h2 hr2 h4)
  have hcf : ChunkIs (w5.setCell ⟨rb, 0, none⟩ v') B cb Z 0 := by
    obtain ⟨vb, bs, hvb, hob⟩ := hch.buf
    exact ⟨stepf _ _ _ hch.heap (by decide) (by decide), hch.size, hch.addr, vb, bs, hvb, own_keep hob (fun g D _ hh => stepf _ _ _ hh (by decide) (by decide))⟩
  refine ⟨v', cbs ++ [cb], ⟨?_, h.base, ?_, ?_, ?_, ?_, ?_, ?_⟩, ?_, ?_⟩
  · have := heap_set hr5 0 v'
    simpa using this
  · have : w5.ownsRow B 40 1 v' (cbs ++ [cb]).length ((cbs ++ [cb]).map fun b => .pointer (some ⟨b, 0, none⟩)) := by simpa using hown
    exact hkf.own this (fun g hg e => own_ne this hr5 (by decide) (e ▸ hg))
  · simp; omega
  · simp; omega
  · intro q b' hq
    by_cases hqn : q < cbs.length
    · rw [List.getElem?_append_left hqn] at hq
      obtain ⟨hB', C', a', m', c', hh', hs', hc', hm', hsh⟩ := h.chunk _ b' hq
      exact ⟨hB', C', a', m', c', stepf _ _ _ (hk2.heap hh' id) (by decide) (by decide), hs', hc', hm', hsh⟩
    · have hql := (List.getElem?_eq_some_iff.1 hq).1
      simp at hql
      obtain rfl : q = cbs.length := by omega
      simp at hq
      subst hq
      obtain ⟨vb, bs, hvb, hob⟩ := hch.buf
      obtain ⟨ab, cb', rfl⟩ := own_slice hob
      exact ⟨by omega, Z, ab, 0, cb', hcf.heap, hch.size, hvb, by omega, fun j _ hlt => by omega⟩
  · intro b' hq
    obtain hqn : n / 4096 = cbs.length := by omega
    rw [hqn] at hq
    simp at hq
    subst hq
    exact ⟨Z, 0, hcf, by omega⟩
  · have hold : ∀ q b' : Nat, cbs[q]? = some b' → b' < w.heap.size := fun q b' hq => by
      obtain ⟨_, C', a', m', c', hh', _⟩ := h.chunk _ b' hq
      exact lt_of_heap hh'
    intro q1 q2 b' h1 h2
    have l1 := (List.getElem?_eq_some_iff.1 h1).1
    have l2 := (List.getElem?_eq_some_iff.1 h2).1
    simp at l1 l2
    by_cases c1 : q1 < cbs.length <;> by_cases c2 : q2 < cbs.length
    · rw [List.getElem?_append_left c1] at h1
      rw [List.getElem?_append_left c2] at h2
      exact h.apart _ _ _ h1 h2
    · rw [List.getElem?_append_left c1] at h1
      obtain rfl : q2 = cbs.length := by omega
      simp at h2
      have := hold _ _ h1
      omega
    · rw [List.getElem?_append_left c2] at h2
      obtain rfl : q1 = cbs.length := by omega
      simp at h1
      have := hold _ _ h2
      omega
    · omega
  · simp; omega
  · exact ((hk2.mono (fun _ _ e => e.elim)).trans hk5 (fun i _ e => (h.own.lt i e.symm).1)).trans hkf (fun i _ e => e ▸ h.base)

end Go.Proofs.Qxb6602190a
