import Derived.Test.Qxb6615167aTwo
namespace Go.Proofs.Qxb6615167a
open Go.RowKit Go.MuLone

set_option maxHeartbeats 2000000 in
set_option maxRecDepth 100000 in
theorem two_main (u r c1 w1 c2 w2 : Int) (hu : 0 ≤ u) (h1 : 0 ≤ c1) (h2 : 0 ≤ c2) (hum : u ≤ 9223372036854775807) (h1m : c1 ≤ 9223372036854775807) (h2m : c2 ≤ 9223372036854775807)
    (hn : (c1 + c2 ≤ 9223372036854775807 ∧ c1 + c2 ≤ u) ∨ (9223372036854775807 < c1 + c2 ∧ 9223372036854775807 ≤ u)) (w : World) :
    Calls Try.prog 4 #[.int .i64 u, .int .i64 r, .int .i64 c1, .int .i64 w1, .int .i64 c2, .int .i64 w2] w fun e w' => e = .returned (.bool true) ∧ Grown w w' := by
  obtain ⟨X1, Y1, X, x1, x2, y1, y2, xb, xp, xq⟩ := left_two (u := u) h1 h2 (by omega) (by omega)
  obtain ⟨M1, N1, M, m1, m2, n1, n2, mb1, mb2, mb3, mb4⟩ := max_two r w1 w2
  obtain ⟨xb1, xb2, xb3, xb4⟩ := xb
  have hX : (c1 + c2 ≤ u ∧ u - (c1 + c2) ≤ X ∧ X ≤ u - (c1 + c2)) ∨ (u < c1 + c2 ∧ 0 ≤ X ∧ X ≤ 0) := by
    by_cases h : c1 + c2 ≤ u
    · exact .inl ⟨h, xp h⟩
    · exact .inr ⟨by omega, xq (by omega)⟩
  clear xp xq
  rcases hn with ⟨hs, hn⟩ | ⟨hs, hn⟩
  all_goals
    go_enter Try.func4, Try.ntmps4
    go_wp2_with fail
    refine (newAcc u r _).mono ?_
    rintro e wa ⟨A, rfl, eA, hA, mA⟩
    go_wp2_with fail
    refine (newSpd (some ⟨A, 0, none⟩) c1 false _).mono ?_
    rintro e ws ⟨S1, rfl, eS1, hS1, mS1⟩
    go_wp2_with fail
    refine (newSpd (some ⟨A, 0, none⟩) c2 false _).mono ?_
    rintro e wt ⟨S2, rfl, eS2, hS2, mS2⟩
    have O1 : Hid (A = w.heap.size ∧ S1 = A + 1 ∧ S2 = A + 2 ∧ wt.heap.size = A + 3) := by
      have e1 := eA.out
      have e2 := eS1.out
      have e3 := eS2.out
      have e4 := mA.out.size
      have e5 := mS1.out.size
      have e6 := mS2.out.size
      exact ⟨e1, by omega, by omega, by omega⟩
    have G1 : Hid (Grown w wt) := mS2.out.grown _ (mS1.out.grown _ (mA.out.grown _ (Grown.refl _)))
    have a1 : Hid (Acc wt A u r) := (hA.out.made mS1.out).made mS2.out
    have s1 : Hid (Spd wt S1 (some ⟨A, 0, none⟩) c1 false) := hS1.out.made mS2.out
    clear eA eS1 eS2 mA mS1 mS2 hA hS1
    -- the first order
    go_wp2_with fail
    refine (zzunshare S1 w1 _ (unshare_any A S1 (by have := O1.out; omega) u r c1 w1 X1 M1 _ a1.out s1.out hu h1 hum x1 m1)).mono ?_
    rintro e wx ⟨rfl, pA, pS, pK⟩
    have a2 : Hid (Acc wx A X1 M1) := pA
    have s2 : Hid (Spd wx S1 (some ⟨A, 0, none⟩) c1 true) := pS
    have k2 : Hid (Keeps A S1 wt wx) := pK
    have t2 : Hid (Spd wx S2 (some ⟨A, 0, none⟩) c2 false) := hS2.out.kept pK (by have := O1.out; omega) (by have := O1.out; omega)
    have G2 : Hid (Grown w wx) := pK.grown _ G1.out (by have := O1.out; omega) (by have := O1.out; omega)
    clear pA pS pK a1 s1 hS2 G1
    go_wp2_with fail
    refine (zzunshare S2 w2 _ (unshare_any A S2 (by have := O1.out; omega) X1 M1 c2 w2 X M _ a2.out t2.out xb1 h2 (by omega) x2 m2)).mono ?_
    rintro e wy ⟨rfl, pA, pS, pK⟩
    have a3 : Hid (Acc wy A X M) := pA
    have t3 : Hid (Spd wy S2 (some ⟨A, 0, none⟩) c2 true) := pS
    have s3 : Hid (Spd wy S1 (some ⟨A, 0, none⟩) c1 true) := s2.out.kept pK (by have := O1.out; omega) (by have := O1.out; omega)
    have G3 : Hid (Grown w wy) := pK.grown _ G2.out (by have := O1.out; omega) (by have := O1.out; omega)
    have O2 : Hid (A = w.heap.size ∧ S1 = A + 1 ∧ S2 = A + 2 ∧ wy.heap.size = A + 3) := by
      have o := O1.out
      have e1 := k2.out.size
      have e2 := pK.size
      exact ⟨o.1, o.2.1, o.2.2.1, by omega⟩
    clear pA pS pK a2 s2 t2 k2 G2 O1
    -- the second order
    go_wp2_with fail
    refine (newAcc u r _).mono ?_
    rintro e wb ⟨B, rfl, eB, hB, mB⟩
    go_wp2_with fail
    refine (newSpd (some ⟨B, 0, none⟩) c1 false _).mono ?_
    rintro e wc ⟨T1, rfl, eT1, hT1, mT1⟩
    go_wp2_with fail
    refine (newSpd (some ⟨B, 0, none⟩) c2 false _).mono ?_
    rintro e wd ⟨T2, rfl, eT2, hT2, mT2⟩
    have O3 : Hid (A = w.heap.size ∧ S1 = A + 1 ∧ S2 = A + 2 ∧ B = A + 3 ∧ T1 = A + 4 ∧ T2 = A + 5) := by
      have o := O2.out
      have e1 := eB.out
      have e2 := eT1.out
      have e3 := eT2.out
      have e4 := mB.out.size
      have e5 := mT1.out.size
      exact ⟨o.1, o.2.1, o.2.2.1, by omega, by omega, by omega⟩
    have G4 : Hid (Grown w wd) := mT2.out.grown _ (mT1.out.grown _ (mB.out.grown _ G3.out))
    have a4 : Hid (Acc wd A X M) := ((a3.out.made mB.out).made mT1.out).made mT2.out
    have s4 : Hid (Spd wd S1 (some ⟨A, 0, none⟩) c1 true) := ((s3.out.made mB.out).made mT1.out).made mT2.out
    have t4 : Hid (Spd wd S2 (some ⟨A, 0, none⟩) c2 true) := ((t3.out.made mB.out).made mT1.out).made mT2.out
    have b4 : Hid (Acc wd B u r) := (hB.out.made mT1.out).made mT2.out
    have q4 : Hid (Spd wd T1 (some ⟨B, 0, none⟩) c1 false) := hT1.out.made mT2.out
    clear eB eT1 eT2 mB mT1 mT2 hB hT1 O2 a3 s3 t3 G3
    go_wp2_with fail
    refine (zzunshare T2 w2 _ (unshare_any B T2 (by have := O3.out; omega) u r c2 w2 Y1 N1 _ b4.out hT2.out hu h2 hum y1 n1)).mono ?_
    rintro e we ⟨rfl, pA, pS, pK⟩
    have b5 : Hid (Acc we B Y1 N1) := pA
    have z5 : Hid (Spd we T2 (some ⟨B, 0, none⟩) c2 true) := pS
    have q5 : Hid (Spd we T1 (some ⟨B, 0, none⟩) c1 false) := q4.out.kept pK (by have := O3.out; omega) (by have := O3.out; omega)
    have a5 : Hid (Acc we A X M) := a4.out.kept pK (by have := O3.out; omega) (by have := O3.out; omega)
    have s5 : Hid (Spd we S1 (some ⟨A, 0, none⟩) c1 true) := s4.out.kept pK (by have := O3.out; omega) (by have := O3.out; omega)
    have t5 : Hid (Spd we S2 (some ⟨A, 0, none⟩) c2 true) := t4.out.kept pK (by have := O3.out; omega) (by have := O3.out; omega)
    have G5 : Hid (Grown w we) := pK.grown _ G4.out (by have := O3.out; omega) (by have := O3.out; omega)
    clear pA pS pK b4 q4 a4 s4 t4 G4 hT2
    go_wp2_with fail
    refine (zzunshare T1 w1 _ (unshare_any B T1 (by have := O3.out; omega) Y1 N1 c1 w1 X M _ b5.out q5.out xb3 h1 (by omega) y2 n2)).mono ?_
    rintro e wf ⟨rfl, pA, pS, pK⟩
    have b6 : Hid (Acc wf B X M) := pA
    have q6 : Hid (Spd wf T1 (some ⟨B, 0, none⟩) c1 true) := pS
    have z6 : Hid (Spd wf T2 (some ⟨B, 0, none⟩) c2 true) := z5.out.kept pK (by have := O3.out; omega) (by have := O3.out; omega)
    have a6 : Hid (Acc wf A X M) := a5.out.kept pK (by have := O3.out; omega) (by have := O3.out; omega)
    have s6 : Hid (Spd wf S1 (some ⟨A, 0, none⟩) c1 true) := s5.out.kept pK (by have := O3.out; omega) (by have := O3.out; omega)
    have t6 : Hid (Spd wf S2 (some ⟨A, 0, none⟩) c2 true) := t5.out.kept pK (by have := O3.out; omega) (by have := O3.out; omega)
    have G6 : Hid (Grown w wf) := pK.grown _ G5.out (by have := O3.out; omega) (by have := O3.out; omega)
    clear pA pS pK b5 q5 z5 a5 s5 t5 G5
    go_wp2_with fail
    all_goals
      refine (unwrittenOf A _ _ _ a6.out).mono ?_
      rintro e wz ⟨rfl, rfl⟩
      go_wp2_with fail
      refine (writtenOf A _ _ _ a6.out).mono ?_
      rintro e wz ⟨rfl, rfl⟩
      go_wp2_with fail
      refine (unwrittenOf B _ _ _ b6.out).mono ?_
      rintro e wz ⟨rfl, rfl⟩
      go_wp2_with fail
      refine (writtenOf B _ _ _ b6.out).mono ?_
      rintro e wz ⟨rfl, rfl⟩
      go_wp2_with fail
      refine (unsharedOf S1 _ _ _ _ s6.out).mono ?_
      rintro e wz ⟨rfl, rfl⟩
      go_wp2_with fail
      refine (unsharedOf S2 _ _ _ _ t6.out).mono ?_
      rintro e wz ⟨rfl, rfl⟩
      go_wp2_with fail
      refine (unsharedOf T1 _ _ _ _ q6.out).mono ?_
      rintro e wz ⟨rfl, rfl⟩
      go_wp2_with fail
      refine (unsharedOf T2 _ _ _ _ z6.out).mono ?_
      rintro e wz ⟨rfl, rfl⟩
      go_wp2
      go_ret
      exact ⟨rfl, G6.out⟩

end Go.Proofs.Qxb6615167a
