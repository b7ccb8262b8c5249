import Derived.Test.Qxb6615167aMore
namespace Go.Proofs.Qxb6615167a
open Go.RowKit Go.MuLone

/-! ### the makers once more, the new block under a name -/
theorem newAcc (u r : Int) (w : World) :
    Calls Try.prog 5 #[.int .i64 u, .int .i64 r] w fun e w' => ∃ A, e = .returned (.pointer (some ⟨A, 0, none⟩)) ∧ Hid (A = w.heap.size) ∧ Hid (Acc w' A u r) ∧ Hid (Made w w') :=
  (newAccount u r w).mono fun _ _ ⟨h1, h2, h3⟩ => ⟨_, h1, rfl, h2, h3⟩
theorem newSpd (a : Option Addr) (c : Int) (f : Bool) (w : World) :
    Calls Try.prog 6 #[.pointer a, .int .i64 c, .bool f] w fun e w' => ∃ S, e = .returned (.pointer (some ⟨S, 0, none⟩)) ∧ Hid (S = w.heap.size) ∧ Hid (Spd w' S a c f) ∧ Hid (Made w w') :=
  (newSpending a c f w).mono fun _ _ ⟨h1, h2, h3⟩ => ⟨_, h1, rfl, h2, h3⟩

set_option maxHeartbeats 1000000 in
set_option maxRecDepth 100000 in
/-- The spending counts. -/
theorem once_counts (c u r w1 w2 : Int) (hc : 0 ≤ c) (hcu : c ≤ u) (hum : u ≤ 9223372036854775807) (w : World) :
    Calls Try.prog 3 #[.bool true, .int .i64 c, .int .i64 u, .int .i64 r, .bool false, .int .i64 w1, .int .i64 w2] w fun e w' => e = .returned (.bool true) ∧ Grown w w' := by
  have hu : 0 ≤ u := by omega
  by_cases hr : r < w1
  · have HM : Hid (mx r w1 = w1) := if_pos hr
    go_enter Try.func3, Try.ntmps3
    go_wp2_with fail
    refine (newAcc u r _).mono ?_
    rintro e wa ⟨A, rfl, eA, hA, mA⟩
    go_wp2_with fail
    refine (newSpd (some ⟨A, 0, none⟩) c false _).mono ?_
    rintro e ws ⟨S, rfl, eS, hS, mS⟩
    have HG : Hid (Grown w ws ∧ w.heap.size ≤ A ∧ w.heap.size ≤ S ∧ A ≠ S) := by
      have e1 := eA.out
      have e2 := eS.out
      have e3 := mA.out.size
      exact ⟨mS.out.grown _ (mA.out.grown _ (Grown.refl _)), by omega, by omega, by omega⟩
    have hA2 : Hid (Acc ws A u r) := hA.out.made mS.out
    clear eA eS mA mS hA
    go_wp2_with fail
    refine (zzunshare S w1 _ (unshare_few A S HG.out.2.2.2 u r c w1 _ hA2.out hS.out hu hc hcu hum)).mono ?_
    rintro e wx ⟨rfl, pA, pS, pK⟩
    rw [HM.out] at pA
    have HA : Hid (Acc wx A (u - c) w1) := pA
    have HS : Hid (Spd wx S (some ⟨A, 0, none⟩) c true) := pS
    have HX : Hid (Grown w wx) := pK.grown _ HG.out.1 HG.out.2.1 HG.out.2.2.1
    clear pA pS pK hA2 hS
    go_wp2_with (first
      | (go_at_call 8; refine (unwrittenOf A _ _ _ HA.out).mono ?_; rintro e wz ⟨rfl, rfl⟩)
      | (go_at_call 9; refine (writtenOf A _ _ _ HA.out).mono ?_; rintro e wz ⟨rfl, rfl⟩)
      | (go_at_call 10; refine (unsharedOf S _ _ _ _ HS.out).mono ?_; rintro e wz ⟨rfl, rfl⟩))
    refine (zzunshare S w2 _ (unshare_done A S HG.out.2.2.2 _ _ c w2 _ HA.out HS.out)).mono ?_
    rintro e wy ⟨rfl, pA, pS, pK⟩
    have HA2 : Hid (Acc wy A (u - c) w1) := pA
    have HS2 : Hid (Spd wy S (some ⟨A, 0, none⟩) c true) := pS
    have HY : Hid (Grown w wy) := pK.grown _ HX.out HG.out.2.1 HG.out.2.2.1
    clear pA pS pK HA HS HX
    go_wp2_with (first
      | (go_at_call 8; refine (unwrittenOf A _ _ _ HA2.out).mono ?_; rintro e wz ⟨rfl, rfl⟩)
      | (go_at_call 9; refine (writtenOf A _ _ _ HA2.out).mono ?_; rintro e wz ⟨rfl, rfl⟩)
      | (go_at_call 10; refine (unsharedOf S _ _ _ _ HS2.out).mono ?_; rintro e wz ⟨rfl, rfl⟩))
    go_ret
    exact ⟨rfl, HY.out⟩
  · have HM : Hid (mx r w1 = r) := if_neg hr
    go_enter Try.func3, Try.ntmps3
    go_wp2_with fail
    refine (newAcc u r _).mono ?_
    rintro e wa ⟨A, rfl, eA, hA, mA⟩
    go_wp2_with fail
    refine (newSpd (some ⟨A, 0, none⟩) c false _).mono ?_
    rintro e ws ⟨S, rfl, eS, hS, mS⟩
    have HG : Hid (Grown w ws ∧ w.heap.size ≤ A ∧ w.heap.size ≤ S ∧ A ≠ S) := by
      have e1 := eA.out
      have e2 := eS.out
      have e3 := mA.out.size
      exact ⟨mS.out.grown _ (mA.out.grown _ (Grown.refl _)), by omega, by omega, by omega⟩
    have hA2 : Hid (Acc ws A u r) := hA.out.made mS.out
    clear eA eS mA mS hA
    go_wp2_with fail
    refine (zzunshare S w1 _ (unshare_few A S HG.out.2.2.2 u r c w1 _ hA2.out hS.out hu hc hcu hum)).mono ?_
    rintro e wx ⟨rfl, pA, pS, pK⟩
    rw [HM.out] at pA
    have HA : Hid (Acc wx A (u - c) r) := pA
    have HS : Hid (Spd wx S (some ⟨A, 0, none⟩) c true) := pS
    have HX : Hid (Grown w wx) := pK.grown _ HG.out.1 HG.out.2.1 HG.out.2.2.1
    clear pA pS pK hA2 hS
    go_wp2_with (first
      | (go_at_call 8; refine (unwrittenOf A _ _ _ HA.out).mono ?_; rintro e wz ⟨rfl, rfl⟩)
      | (go_at_call 9; refine (writtenOf A _ _ _ HA.out).mono ?_; rintro e wz ⟨rfl, rfl⟩)
      | (go_at_call 10; refine (unsharedOf S _ _ _ _ HS.out).mono ?_; rintro e wz ⟨rfl, rfl⟩))
    refine (zzunshare S w2 _ (unshare_done A S HG.out.2.2.2 _ _ c w2 _ HA.out HS.out)).mono ?_
    rintro e wy ⟨rfl, pA, pS, pK⟩
    have HA2 : Hid (Acc wy A (u - c) r) := pA
    have HS2 : Hid (Spd wy S (some ⟨A, 0, none⟩) c true) := pS
    have HY : Hid (Grown w wy) := pK.grown _ HX.out HG.out.2.1 HG.out.2.2.1
    clear pA pS pK HA HS HX
    go_wp2_with (first
      | (go_at_call 8; refine (unwrittenOf A _ _ _ HA2.out).mono ?_; rintro e wz ⟨rfl, rfl⟩)
      | (go_at_call 9; refine (writtenOf A _ _ _ HA2.out).mono ?_; rintro e wz ⟨rfl, rfl⟩)
      | (go_at_call 10; refine (unsharedOf S _ _ _ _ HS2.out).mono ?_; rintro e wz ⟨rfl, rfl⟩))
    go_ret
    exact ⟨rfl, HY.out⟩

set_option maxHeartbeats 1000000 in
set_option maxRecDepth 100000 in
/-- The spending is unshared already. -/
theorem once_done (c u r w1 w2 : Int) (hc : 0 ≤ c) (hu : 0 ≤ u) (w : World) :
    Calls Try.prog 3 #[.bool true, .int .i64 c, .int .i64 u, .int .i64 r, .bool true, .int .i64 w1, .int .i64 w2] w fun e w' => e = .returned (.bool true) ∧ Grown w w' := by
  go_enter Try.func3, Try.ntmps3
  go_wp2_with fail
  refine (newAcc u r _).mono ?_
  rintro e wa ⟨A, rfl, eA, hA, mA⟩
  go_wp2_with fail
  refine (newSpd (some ⟨A, 0, none⟩) c true _).mono ?_
  rintro e ws ⟨S, rfl, eS, hS, mS⟩
  have HG : Hid (Grown w ws ∧ w.heap.size ≤ A ∧ w.heap.size ≤ S ∧ A ≠ S) := by
    have e1 := eA.out
    have e2 := eS.out
    have e3 := mA.out.size
    exact ⟨mS.out.grown _ (mA.out.grown _ (Grown.refl _)), by omega, by omega, by omega⟩
  have hA2 : Hid (Acc ws A u r) := hA.out.made mS.out
  clear eA eS mA mS hA
  go_wp2_with fail
  refine (zzunshare S w1 _ (unshare_done A S HG.out.2.2.2 u r c w1 _ hA2.out hS.out)).mono ?_
  rintro e wx ⟨rfl, pA, pS, pK⟩
  have HA : Hid (Acc wx A u r) := pA
  have HS : Hid (Spd wx S (some ⟨A, 0, none⟩) c true) := pS
  have HX : Hid (Grown w wx) := pK.grown _ HG.out.1 HG.out.2.1 HG.out.2.2.1
  clear pA pS pK hA2 hS
  go_wp2_with (first
    | (go_at_call 8; refine (unwrittenOf A _ _ _ HA.out).mono ?_; rintro e wz ⟨rfl, rfl⟩)
    | (go_at_call 9; refine (writtenOf A _ _ _ HA.out).mono ?_; rintro e wz ⟨rfl, rfl⟩)
    | (go_at_call 10; refine (unsharedOf S _ _ _ _ HS.out).mono ?_; rintro e wz ⟨rfl, rfl⟩))
  refine (zzunshare S w2 _ (unshare_done A S HG.out.2.2.2 _ _ c w2 _ HA.out HS.out)).mono ?_
  rintro e wy ⟨rfl, pA, pS, pK⟩
  have HA2 : Hid (Acc wy A u r) := pA
  have HS2 : Hid (Spd wy S (some ⟨A, 0, none⟩) c true) := pS
  have HY : Hid (Grown w wy) := pK.grown _ HX.out HG.out.2.1 HG.out.2.2.1
  clear pA pS pK HA HS HX
  go_wp2_with (first
    | (go_at_call 8; refine (unwrittenOf A _ _ _ HA2.out).mono ?_; rintro e wz ⟨rfl, rfl⟩)
    | (go_at_call 9; refine (writtenOf A _ _ _ HA2.out).mono ?_; rintro e wz ⟨rfl, rfl⟩)
    | (go_at_call 10; refine (unsharedOf S _ _ _ _ HS2.out).mono ?_; rintro e wz ⟨rfl, rfl⟩))
  go_ret
  exact ⟨rfl, HY.out⟩

set_option maxHeartbeats 1000000 in
set_option maxRecDepth 100000 in
/-- The spending has no account. -/
theorem once_nil (c u r w1 w2 : Int) (f : Bool) (hc : 0 ≤ c) (hu : 0 ≤ u) (w : World) :
    Calls Try.prog 3 #[.bool false, .int .i64 c, .int .i64 u, .int .i64 r, .bool f, .int .i64 w1, .int .i64 w2] w fun e w' => e = .returned (.bool true) ∧ Grown w w' := by
  go_enter Try.func3, Try.ntmps3
  go_wp2_with fail
  refine (newAcc u r _).mono ?_
  rintro e wa ⟨A, rfl, eA, hA, mA⟩
  go_wp2_with fail
  refine (newSpd (some ⟨A, 0, none⟩) c f _).mono ?_
  rintro e ws ⟨S', rfl, eS', hS', mS'⟩
  go_wp2_with fail
  refine (newSpd none c f _).mono ?_
  rintro e wt ⟨S, rfl, eS, hS, mS⟩
  have HX : Hid (Grown w wt) := mS.out.grown _ (mS'.out.grown _ (mA.out.grown _ (Grown.refl _)))
  have HA : Hid (Acc wt A u r) := (hA.out.made mS'.out).made mS.out
  clear eA eS eS' mA mS mS' hA hS'
  go_wp2_with fail
  refine (zzunshare S w1 _ (unshare_nil S c w1 f _ hS.out)).mono ?_
  rintro e wx ⟨rfl, rfl⟩
  go_wp2_with (first
    | (go_at_call 8; refine (unwrittenOf A _ _ _ HA.out).mono ?_; rintro e wz ⟨rfl, rfl⟩)
    | (go_at_call 9; refine (writtenOf A _ _ _ HA.out).mono ?_; rintro e wz ⟨rfl, rfl⟩)
    | (go_at_call 10; refine (unsharedOf S _ _ _ _ hS.out).mono ?_; rintro e wz ⟨rfl, rfl⟩))
  refine (zzunshare S w2 _ (unshare_nil S c w2 f _ hS.out)).mono ?_
  rintro e wx ⟨rfl, rfl⟩
  go_wp2_with (first
    | (go_at_call 8; refine (unwrittenOf A _ _ _ HA.out).mono ?_; rintro e wz ⟨rfl, rfl⟩)
    | (go_at_call 9; refine (writtenOf A _ _ _ HA.out).mono ?_; rintro e wz ⟨rfl, rfl⟩)
    | (go_at_call 10; refine (unsharedOf S _ _ _ _ hS.out).mono ?_; rintro e wz ⟨rfl, rfl⟩))
  go_ret
  exact ⟨by cases f <;> rfl, HX.out⟩

set_option maxHeartbeats 1000000 in
set_option maxRecDepth 100000 in
/-- The exits ahead of the law. -/
theorem once_exit (a f : Bool) (c u r w1 w2 : Int) (h : c < 0 ∨ u < 0 ∨ (0 ≤ c ∧ 0 ≤ u ∧ a = true ∧ f = false ∧ u < c)) (w : World) :
    Calls Try.prog 3 #[.bool a, .int .i64 c, .int .i64 u, .int .i64 r, .bool f, .int .i64 w1, .int .i64 w2] w fun e w' => e = .returned (.bool true) ∧ Grown w w' := by
  by_cases h1 : c < 0
  · clear h
    go_enter Try.func3, Try.ntmps3
    go_wp2
    go_ret
    exact ⟨rfl, Grown.refl _⟩
  by_cases h2 : u < 0
  · clear h
    go_enter Try.func3, Try.ntmps3
    go_wp2
    go_ret
    exact ⟨rfl, Grown.refl _⟩
  · obtain ⟨k1, k2, rfl, rfl, k3⟩ : 0 ≤ c ∧ 0 ≤ u ∧ a = true ∧ f = false ∧ u < c := by
      rcases h with h | h | h
      · omega
      · omega
      · exact h
    go_enter Try.func3, Try.ntmps3
    go_wp2
    go_ret
    exact ⟨rfl, Grown.refl _⟩

end Go.Proofs.Qxb6615167a
