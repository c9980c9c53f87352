/-
  Seat b6601328a: ZZNodeFields (7): the ten fields read in one region that draws its order.
-/
import Derived.Test.Qxb6601328aBase
import Derived.Deep.RegionHeld3
namespace Go.Proofs.Qxb6601328a
open Go.RowKit

set_option maxHeartbeats 4000000 in
theorem fields7 (b : Nat) (c0 c1 st po fl v0 v1 da ins ip sc : Int) (d : Bool) (w : World) (h : NodeAt w b c0 c1 st po fl v0 v1 da ins ip sc d) :
    Calls Try.prog 7 #[.pointer (some ⟨b, 0, none⟩)] w fun e w' =>
      e = .returned (.tuple #[.agg #[.int .i64 c0, .int .i64 c1], .int .i64 st, .int .i64 po, .int .i64 fl, .agg #[.int .i64 v0, .int .i64 v1], .int .i64 da, .int .i64 ins, .int .u32 ip, .int .u8 sc, .bool d]) ∧ Below w.heap.size w w' := by
  obtain ⟨hlt, k0, k1, k2, k3, k4, k5, k6, k7, k8, k9, k10, k11⟩ := h
  go_enter Try.func7, Try.ntmps7
  have hne : b ≠ w.heap.size := by omega
  have hne1 : b ≠ w.heap.size + 1 := by omega
  go_wp2_with fail
  go_region_held3 (fun w' => w'.cell? ⟨b, 0, none⟩ = some (.int .i64 c0) ∧ w'.cell? ⟨b, 1, none⟩ = some (.int .i64 c1) ∧ w'.cell? ⟨b, 2, none⟩ = some (.int .i64 st) ∧ w'.cell? ⟨b, 3, none⟩ = some (.int .i64 po) ∧ w'.cell? ⟨b, 4, none⟩ = some (.int .i64 fl) ∧ w'.cell? ⟨b, 5, none⟩ = some (.int .i64 v0) ∧ w'.cell? ⟨b, 6, none⟩ = some (.int .i64 v1) ∧ w'.cell? ⟨b, 7, none⟩ = some (.int .i64 da) ∧ w'.cell? ⟨b, 8, none⟩ = some (.int .i64 ins) ∧ w'.cell? ⟨b, 9, none⟩ = some (.int .u32 ip) ∧ w'.cell? ⟨b, 10, none⟩ = some (.int .u8 sc) ∧ w'.cell? ⟨b, 11, none⟩ = some (.bool d)) (go_keep) (fail)
  all_goals go_wp2
  all_goals exact bodyPost_ret (v := .tuple #[.agg #[.int .i64 c0, .int .i64 c1], .int .i64 st, .int .i64 po, .int .i64 fl, .agg #[.int .i64 v0, .int .i64 v1], .int .i64 da, .int .i64 ins, .int .u32 ip, .int .u8 sc, .bool d]) (by simp [results, Try.results7, go_sem]) rfl ⟨rfl, (((Below.refl _ _).alloc (Nat.le_refl _) _).alloc (by simp) _).drew⟩
end Go.Proofs.Qxb6601328a
