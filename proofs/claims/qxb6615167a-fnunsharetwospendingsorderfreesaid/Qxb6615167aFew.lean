import Derived.Test.Qxb6615167aWalks
namespace Go.Proofs.Qxb6615167a
open Go.RowKit Go.MuLone

set_option maxHeartbeats 1000000 in
set_option maxRecDepth 100000 in
/-- 'unshare' of a spending that counts, its cost within what is unwritten. -/
theorem unshare_few (A S : Nat) (hAS : A ≠ S) (u r c wn : Int) (w : World) (hA : Acc w A u r) (hS : Spd w S (some ⟨A, 0, none⟩) c false) (hu : 0 ≤ u) (hc : 0 ≤ c) (hcu : c ≤ u) (hum : u ≤ 9223372036854775807) :
    Calls Try.prog 11 #[.pointer (some ⟨S, 0, none⟩), .int .i64 wn] w fun e w' => e = .returned (.tuple #[]) ∧ Acc w' A (u - c) (mx r wn) ∧ Spd w' S (some ⟨A, 0, none⟩) c true ∧ Keeps A S w w' := by
  have a0 := hA.c0
  have a8 := hA.c8
  have a9 := hA.c9
  have a10 := hA.c10
  have b0 := hA.f0
  have b8 := hA.f8
  have b9 := hA.f9
  have s0 := hS.c0
  have s1 := hS.c1
  have s6 := hS.c6
  have t6 := hS.f6
  have HA : Hid (Acc w A u r) := hA
  have HS : Hid (Spd w S (some ⟨A, 0, none⟩) c false) := hS
  clear hA hS
  go_enter_defers Try.func11, Try.ntmps11
  go_wp2_with (go_at_call 12; refine (lock_free muLib ⟨A, 0, none⟩ _ a0 b0).mono ?_; rintro e w' ⟨rfl, rfl⟩)
  go_region
  by_cases hr : r < wn
  · have HM : Hid (mx r wn = wn) := if_pos hr
    go_wp2_with (go_at_call 14; refine (shareHeld_none A _ (by simp [go_sem, a10])).mono ?_; rintro e w' ⟨rfl, rfl⟩)
    refine leaves_cons (f := 13) (args := #[.pointer (some ⟨A, 0, none⟩)]) (by simp) (by simp [go_sem]) ?_
    refine (unlock_deferred muLib ⟨A, 0, none⟩ .returning _ (by simp [go_sem, a0]) (by simp [go_sem, b0])).mono ?_
    rintro e u' w'' ⟨rfl, rfl, rfl⟩
    refine ⟨_, results_none rfl _ _ _, rfl, ?_⟩
    have HF' := unshare_final A S hAS u r c (u - c) wn w HA.out HS.out
    rw [HM.out] at HF' ⊢
    exact HF'
  · have HM : Hid (mx r wn = r) := if_neg hr
    go_wp2_with (go_at_call 14; refine (shareHeld_none A _ (by simp [go_sem, a10])).mono ?_; rintro e w' ⟨rfl, rfl⟩)
    refine leaves_cons (f := 13) (args := #[.pointer (some ⟨A, 0, none⟩)]) (by simp) (by simp [go_sem]) ?_
    refine (unlock_deferred muLib ⟨A, 0, none⟩ .returning _ (by simp [go_sem, a0]) (by simp [go_sem, b0])).mono ?_
    rintro e u' w'' ⟨rfl, rfl, rfl⟩
    refine ⟨_, results_none rfl _ _ _, rfl, ?_⟩
    have HF' := unshare_final A S hAS u r c (u - c) wn w HA.out HS.out
    rw [HM.out] at HF' ⊢
    exact HF'

end Go.Proofs.Qxb6615167a
