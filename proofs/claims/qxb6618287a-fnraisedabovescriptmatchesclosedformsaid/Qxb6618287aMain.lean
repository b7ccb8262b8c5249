import Derived.Test.Qxb6618287aScript
namespace Go.Proofs.Qxb6618287a
open Go.RowKit

/-- The numbers of a slice that came in, by their index (a nil or empty one has none). -/
def Row (w : World) (a : Option Addr) (n : Nat) (A : Nat → Int) : Prop :=
  ∀ i, i < n → ∃ b off, a = some ⟨b, off, none⟩ ∧ b < w.heap.size ∧ w.cell? ⟨b, off + i, none⟩ = some (.int .i64 (A i))

set_option maxHeartbeats 1000000 in
set_option maxRecDepth 100000 in
theorem exit_elem (s : ByteArray) (e : Int) (a : Option Addr) (n cap i0 : Nat) (A : Nat → Int) (w : World) (hs : s.size + 8 * n ≤ 1048576) (he : e ≤ 9223372036854775807 - (n : Int)) (hA : Hid (Row w a n A)) (hi0 : i0 < n) (hx : 9223372036854775807 - (n : Int) < A i0) :
    Calls Try.prog 4 #[.string s, .int .i64 e, .slice a n cap] w fun en w' => en = .returned (.bool true) ∧ Below w.heap.size w w' := by
  go_enter Try.func4, Try.ntmps4
  go_wp2_with (go_at_call 7; refine (bytes7_yes _ _ _ _ _ _ (by omega)).mono ?_; rintro e w' ⟨rfl, rfl⟩)
  go_loop [8] (fun i => ∃ k : Nat, k ≤ i0 ∧ i = .int .i64 k) (fun i => i0 - (intOf i).toNat)
  case atStart => exact ⟨0, Nat.zero_le _, rfl⟩
  case round =>
    obtain ⟨k, hk, rfl⟩ := hrel
    have hkn : k < n := by omega
    obtain ⟨b, off, rfl, hb, hc⟩ := hA.out k hkn
    by_cases hkx : 9223372036854775807 - (n : Int) < A k
    · go_wp2
      go_ret
      exact ⟨rfl, Below.refl _ _⟩
    · have hki : k < i0 := by
        rcases Nat.lt_or_ge k i0 with h | h
        · exact h
        · obtain rfl : k = i0 := by omega
          omega
      go_wp2
      go_round
      case rel => exact ⟨k + 1, by omega, by go_num⟩
      case measure => simp [intOf]; omega

/-! ### THE PLAIN LAW: behind k raises the best index is bz (0: none yet), the epoch is E -/
def Inv (e : Int) (A : Nat → Int) (k : Nat) (bz E : Int) : Prop :=
  (k = 0 ∧ bz = 0 ∧ E = e) ∨ ∃ m : Nat, m < k ∧ bz = (m : Int) + 1 ∧ e + k ≤ E ∧ A m + (k - m) ≤ E ∧ (E = e + k ∨ E = A m + (k - m))

/-- The new one is the best (there was none, or it beats the old one). -/
theorem inv_hit {e : Int} {A : Nat → Int} {k : Nat} {bz E E' : Int} (h : Inv e A k bz E) (hit : bz = 0 ∨ ∃ m : Nat, bz = (m : Int) + 1 ∧ A m + ((k : Int) + 1) < A k + ((m : Int) + 1)) (hE : E' = (if E < A k then A k else E) + 1) :
    Inv e A (k + 1) ((k : Int) + 1) E' ∧ e + ((k : Int) + 1) ≤ E' ∧ A k + 1 ≤ E' ∧ (E' ≤ e + ((k : Int) + 1) ∨ E' ≤ A k + 1) := by
  have hmx : E + 1 ≤ E' ∧ A k + 1 ≤ E' ∧ (E' = E + 1 ∨ E' = A k + 1) := by
    subst hE; split <;> omega
  have key : e + ((k : Int) + 1) ≤ E' ∧ A k + 1 ≤ E' ∧ (E' = e + ((k : Int) + 1) ∨ E' = A k + 1) := by
    rcases h with ⟨rfl, rfl, rfl⟩ | ⟨m, hm, rfl, h1, h2, h3⟩
    · omega
    · rcases hit with h0 | ⟨m', hm', hlt⟩
      · omega
      · obtain rfl : m = m' := by omega
        omega
  refine ⟨.inr ⟨k, by omega, rfl, ?_, ?_, ?_⟩, key.1, key.2.1, ?_⟩ <;> omega

/-- The old one stays the best. -/
theorem inv_miss {e : Int} {A : Nat → Int} {k m : Nat} {E E' : Int} (h : Inv e A k ((m : Int) + 1) E) (miss : ¬ A m + ((k : Int) + 1) < A k + ((m : Int) + 1)) (hE : E' = (if E < A k then A k else E) + 1) :
    Inv e A (k + 1) ((m : Int) + 1) E' ∧ e + ((k : Int) + 1) ≤ E' ∧ A m + ((k : Int) - m + 1) ≤ E' ∧ (E' ≤ e + ((k : Int) + 1) ∨ E' ≤ A m + ((k : Int) - m + 1)) := by
  have hmx : E + 1 ≤ E' ∧ A k + 1 ≤ E' ∧ (E' = E + 1 ∨ E' = A k + 1) := by
    subst hE; split <;> omega
  rcases h with ⟨_, h0, _⟩ | ⟨m', hm, hmm, h1, h2, h3⟩
  · omega
  · obtain rfl : m = m' := by omega
    refine ⟨.inr ⟨m, by omega, rfl, ?_, ?_, ?_⟩, ?_, ?_, ?_⟩ <;> omega

theorem inv_bounds {e : Int} {A : Nat → Int} {k n : Nat} {bz E : Int} (h : Inv e A k bz E) (hk : k < n) (hn : n ≤ 131072) (l : -9223372036854775808 ≤ e) (u : e ≤ 9223372036854775807 - (n : Int)) (hA : ∀ i, i < n → A i ≤ 9223372036854775807 - (n : Int)) :
    -9223372036854775808 ≤ E ∧ E ≤ 9223372036854775806 := by
  rcases h with ⟨rfl, rfl, rfl⟩ | ⟨m, hm, rfl, h1, h2, h3⟩
  · omega
  · have := hA m (by omega)
    omega

/-- THE LEASE IN ITS BLOCK B (the first that the call made). -/
structure Lease (B : Nat) (w wr : World) (s : ByteArray) (E : Int) : Prop where
  below : Below B w wr
  lt : B < wr.heap.size
  c0 : wr.cell? ⟨B, 0, none⟩ = some (.string s)
  c1 : wr.cell? ⟨B, 1, none⟩ = some (.int .i64 E)
  f0 : wr.frozen? ⟨B, 0, none⟩ = false
  f1 : wr.frozen? ⟨B, 1, none⟩ = false

theorem Lease.later {B : Nat} {w wr w' : World} {s : ByteArray} {E : Int} (h : Lease B w wr s E) (hb : Below wr.heap.size wr w') : Lease B w w' s E :=
  ⟨h.below.trans (hb.mono (Nat.le_of_lt h.lt)), Nat.lt_of_lt_of_le h.lt hb.size, (hb.cell (p := ⟨B, 0, none⟩) h.lt).trans h.c0, (hb.cell (p := ⟨B, 1, none⟩) h.lt).trans h.c1,
    (hb.frozen (p := ⟨B, 0, none⟩) h.lt).trans h.f0, (hb.frozen (p := ⟨B, 1, none⟩) h.lt).trans h.f1⟩

theorem Lease.put {B : Nat} {w wr : World} {s : ByteArray} {E E' : Int} (h : Lease B w wr s E) : Lease B w ((wr.setCell ⟨B, 0, none⟩ (.string s)).setCell ⟨B, 1, none⟩ (.int .i64 E')) s E' := by
  have k1 : (wr.setCell ⟨B, 0, none⟩ (.string s)).cell? ⟨B, 1, none⟩ = some (.int .i64 E) := (World.cell?_setCell_other _ ⟨B, 0, none⟩ ⟨B, 1, none⟩ _ (by simp)).trans h.c1
  refine ⟨(h.below.setCell (Nat.le_refl _) _).setCell (Nat.le_refl _) _, by simpa [World.setCell] using h.lt, ?_, World.cell?_setCell_same _ _ _ k1, by simpa using h.f0, by simpa using h.f1⟩
  exact (World.cell?_setCell_other _ ⟨B, 1, none⟩ ⟨B, 0, none⟩ _ (by simp)).trans (World.cell?_setCell_same _ _ _ h.c0)

set_option maxHeartbeats 2000000 in
set_option maxRecDepth 100000 in
theorem script_main (s : ByteArray) (e : Int) (a : Option Addr) (n cap : Nat) (A : Nat → Int) (w : World) (hs : s.size + 8 * n ≤ 1048576) (he0 : -9223372036854775808 ≤ e) (he : e ≤ 9223372036854775807 - (n : Int)) (hA : Hid (Row w a n A))
    (hlo : Hid (∀ i, i < n → -9223372036854775808 ≤ A i)) (hup : Hid (∀ i, i < n → A i ≤ 9223372036854775807 - (n : Int))) :
    Calls Try.prog 4 #[.string s, .int .i64 e, .slice a n cap] w fun en w' => en = .returned (.bool true) ∧ Below w.heap.size w w' := by
  go_enter Try.func4, Try.ntmps4
  go_wp2_with (go_at_call 7; refine (bytes7_yes _ _ _ _ _ _ (by omega)).mono ?_; rintro e w' ⟨rfl, rfl⟩)
  go_loop [8] (fun i => ∃ k : Nat, k ≤ n ∧ i = .int .i64 k) (fun i => n - (intOf i).toNat)
  case atStart => exact ⟨0, Nat.zero_le _, rfl⟩
  case round =>
    obtain ⟨k, hk, rfl⟩ := hrel
    by_cases hkn : k < n
    · obtain ⟨b, off, rfl, hb, hc⟩ := hA.out k hkn
      have hkx := hup.out k hkn
      go_wp2
      go_round
      case rel => exact ⟨k + 1, by omega, by go_num⟩
      case measure => simp [intOf]; omega
    · go_wp2
      have L0 : Lease w.heap.size w (w.alloc (.cells #[.string s, .int .i64 e] 24)) s e :=
        ⟨(Below.refl _ _).alloc (Nat.le_refl _) _, by simp, by simp [go_sem], by simp [go_sem], by simp [go_sem], by simp [go_sem]⟩
      go_loopw [10, 11] (fun bv jv wr => ∃ (k : Nat) (bz E : Int), k ≤ n ∧ jv = .int .i64 ((k : Int) + 1) ∧ bv = .int .i64 bz ∧ Inv e A k bz E ∧ Lease w.heap.size w wr s E) (fun _ jv _ => n + 1 - (intOf jv).toNat)
      case atStart => exact ⟨0, 0, e, Nat.zero_le _, rfl, rfl, .inl ⟨rfl, rfl, rfl⟩, L0⟩
      case round =>
        obtain ⟨q, bz, E, hq, rfl, rfl, hI, hL⟩ := hrel
        clear L0
        have HI : Hid (Inv e A q bz E) := hI
        by_cases hqn : q < n
        · obtain ⟨b, off, rfl, hb, hc⟩ := hA.out q hqn
          have hcq : wr.cell? ⟨b, off + q, none⟩ = some (.int .i64 (A q)) := (hL.below.cell (p := ⟨b, off + q, none⟩) hb).trans hc
          have hqlo := hlo.out q hqn
          have hqup := hup.out q hqn
          have hE := inv_bounds hI hqn (by omega) he0 he hup.out
          have g0 := hL.c0
          have g1 := hL.c1
          obtain ⟨E', hE'⟩ : ∃ E' : Int, E' = (if E < A q then A q else E) + 1 := ⟨_, rfl⟩
          have HE : Hid (E' = (if E < A q then A q else E) + 1) := hE'
          have HL : Hid (Lease w.heap.size w wr s E) := hL
          obtain ⟨hE1, hE2⟩ := hE
          clear hE' hL hc hI
          have HC : Hid (w.cell? ⟨b, off + q, none⟩ = some (.int .i64 (A q))) := (HL.out.below.cell (p := ⟨b, off + q, none⟩) hb).symm.trans hcq
          by_cases hb0 : bz = 0
          · have t0 : (bz == 0) = true := by simpa using hb0
            have N := inv_hit HI.out (.inl hb0) HE.out
            obtain ⟨N1, N2, N3, N4⟩ := N
            have HN : Hid (Inv e A (q + 1) ((q : Int) + 1) E') := N1
            clear N1 hb0
            by_cases hcw : e + ((q : Int) + 1) < A q + 1
            all_goals
              go_wp2_with fail
              refine (raised_any s E (A q) E' _ hE1 hE2 hqlo (by omega) HE).mono ?_
              rintro en w1 ⟨rfl, hb1⟩
              have hL1 := HL.out.later hb1
              have g0' := hL1.c0
              have g1' := hL1.c1
              have g2' := hL1.f0
              have g3' := hL1.f1
              have HL1 : Hid (Lease w.heap.size w w1 s E) := hL1
              have hcq1 : w1.cell? ⟨b, off + q, none⟩ = some (.int .i64 (A q)) := (hL1.below.cell (p := ⟨b, off + q, none⟩) hb).trans HC.out
              clear hL1 HL hb1 g0 g1 hcq
              go_wp2
              go_roundw
              case rel => exact ⟨q + 1, _, E', by omega, by go_num, rfl, HN.out, HL1.out.put⟩
              case measure => simp [intOf]; omega
          · obtain ⟨m, hm, rfl⟩ : ∃ m : Nat, m < q ∧ bz = (m : Int) + 1 := by
              rcases HI.out with ⟨_, h0, _⟩ | ⟨m, h1, h2, _⟩
              · exact absurd h0 hb0
              · exact ⟨m, h1, h2⟩
            have t0 : ((m : Int) + 1 == 0) = false := by simp; omega
            have HM : Hid (w.cell? ⟨b, off + m, none⟩ = some (.int .i64 (A m))) := by
              obtain ⟨b', off', he', _, hc'⟩ := hA.out m (by omega)
              simp at he'
              obtain ⟨rfl, rfl⟩ := he'
              exact hc'
            have hcm : wr.cell? ⟨b, off + m, none⟩ = some (.int .i64 (A m)) := (HL.out.below.cell (p := ⟨b, off + m, none⟩) hb).trans HM.out
            have hmlo := hlo.out m (by omega)
            have hmup := hup.out m (by omega)
            clear hb0
            by_cases hit : A m + ((q : Int) + 1) < A q + ((m : Int) + 1)
            · have N := inv_hit HI.out (.inr ⟨m, rfl, hit⟩) HE.out
              obtain ⟨N1, N2, N3, N4⟩ := N
              have HN : Hid (Inv e A (q + 1) ((q : Int) + 1) E') := N1
              clear N1
              by_cases hcw : e + ((q : Int) + 1) < A q + 1
              all_goals
                go_wp2_with fail
                refine (raised_any s E (A q) E' _ hE1 hE2 hqlo (by omega) HE).mono ?_
                rintro en w1 ⟨rfl, hb1⟩
                have hL1 := HL.out.later hb1
                have g0' := hL1.c0
                have g1' := hL1.c1
                have g2' := hL1.f0
                have g3' := hL1.f1
                have HL1 : Hid (Lease w.heap.size w w1 s E) := hL1
                have hcq1 : w1.cell? ⟨b, off + q, none⟩ = some (.int .i64 (A q)) := (hL1.below.cell (p := ⟨b, off + q, none⟩) hb).trans HC.out
                have hcm1 : w1.cell? ⟨b, off + m, none⟩ = some (.int .i64 (A m)) := (hL1.below.cell (p := ⟨b, off + m, none⟩) hb).trans HM.out
                clear hL1 HL hb1 g0 g1 hcq hcm
                go_wp2
                go_roundw
                case rel => exact ⟨q + 1, _, E', by omega, by go_num, rfl, HN.out, HL1.out.put⟩
                case measure => simp [intOf]; omega
            · have N := inv_miss HI.out hit HE.out
              obtain ⟨N1, N2, N3, N4⟩ := N
              have HN : Hid (Inv e A (q + 1) ((m : Int) + 1) E') := N1
              clear N1
              by_cases hcw : e + ((q : Int) + 1) < A m + ((q : Int) - m + 1)
              all_goals
                go_wp2_with fail
                refine (raised_any s E (A q) E' _ hE1 hE2 hqlo (by omega) HE).mono ?_
                rintro en w1 ⟨rfl, hb1⟩
                have hL1 := HL.out.later hb1
                have g0' := hL1.c0
                have g1' := hL1.c1
                have g2' := hL1.f0
                have g3' := hL1.f1
                have HL1 : Hid (Lease w.heap.size w w1 s E) := hL1
                have hcq1 : w1.cell? ⟨b, off + q, none⟩ = some (.int .i64 (A q)) := (hL1.below.cell (p := ⟨b, off + q, none⟩) hb).trans HC.out
                have hcm1 : w1.cell? ⟨b, off + m, none⟩ = some (.int .i64 (A m)) := (hL1.below.cell (p := ⟨b, off + m, none⟩) hb).trans HM.out
                clear hL1 HL hb1 g0 g1 hcq hcm
                go_wp2
                go_roundw
                case rel => exact ⟨q + 1, _, E', by omega, by go_num, rfl, HN.out, HL1.out.put⟩
                case measure => simp [intOf]; omega
        · go_wp2
          go_ret
          exact ⟨rfl, hL.below⟩

end Go.Proofs.Qxb6618287a
