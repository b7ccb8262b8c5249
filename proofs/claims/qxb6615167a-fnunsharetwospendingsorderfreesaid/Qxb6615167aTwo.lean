import Derived.Test.Qxb6615167aOnce
import Derived.Test.Qxb6615167aAll
namespace Go.Proofs.Qxb6615167a
open Go.RowKit Go.MuLone

/-- 'unshare' of a spending that counts, whatever its cost: what is left unwritten is X, what is written M. -/
theorem unshare_any (A S : Nat) (hAS : A ≠ S) (u r c wn X M : Int) (w : World) (hA : Acc w A u r) (hS : Spd w S (some ⟨A, 0, none⟩) c false) (hu : 0 ≤ u) (hc : 0 ≤ c) (hum : u ≤ 9223372036854775807)
    (hX : Hid (X = if c ≤ u then u - c else 0)) (hM : Hid (M = mx r wn)) :
    Calls Try.prog 11 #[.pointer (some ⟨S, 0, none⟩), .int .i64 wn] w fun e w' => e = .returned (.tuple #[]) ∧ Acc w' A X M ∧ Spd w' S (some ⟨A, 0, none⟩) c true ∧ Keeps A S w w' := by
  rw [hX.out, hM.out]
  by_cases h : c ≤ u
  · rw [if_pos h]
    exact unshare_few A S hAS u r c wn w hA hS hu hc h hum
  · rw [if_neg h]
    exact unshare_all A S hAS u r c wn w hA hS (by omega)

theorem Acc.kept {w w' : World} {A A' S : Nat} {u r : Int} (h : Acc w A' u r) (k : Keeps A S w w') (h1 : A' ≠ A) (h2 : A' ≠ S) : Acc w' A' u r := h.of_block (k.block A' h1 h2)
theorem Spd.kept {w w' : World} {S' A S : Nat} {a : Option Addr} {c : Int} {f : Bool} (h : Spd w S' a c f) (k : Keeps A S w w') (h1 : S' ≠ A) (h2 : S' ≠ S) : Spd w' S' a c f := h.of_block (k.block S' h1 h2)

/-! ### THE PLAIN LAW: two spendings off one sum, in either order -/
theorem left_two {u c1 c2 : Int} (h1 : 0 ≤ c1) (h2 : 0 ≤ c2) (hm : c1 ≤ u) (hm2 : c2 ≤ u) :
    ∃ X1 Y1 X : Int, Hid (X1 = if c1 ≤ u then u - c1 else 0) ∧ Hid (X = if c2 ≤ X1 then X1 - c2 else 0) ∧ Hid (Y1 = if c2 ≤ u then u - c2 else 0) ∧ Hid (X = if c1 ≤ Y1 then Y1 - c1 else 0) ∧
      (0 ≤ X1 ∧ X1 ≤ u ∧ 0 ≤ Y1 ∧ Y1 ≤ u) ∧ (c1 + c2 ≤ u → u - (c1 + c2) ≤ X ∧ X ≤ u - (c1 + c2)) ∧ (u < c1 + c2 → 0 ≤ X ∧ X ≤ 0) := by
  refine ⟨u - c1, u - c2, if c1 + c2 ≤ u then u - (c1 + c2) else 0, ?_, ?_, ?_, ?_, by omega, ?_, ?_⟩
  · show _ = _; rw [if_pos hm]
  · show _ = _
    by_cases h : c1 + c2 ≤ u
    · rw [if_pos h, if_pos (by omega)]; omega
    · rw [if_neg h, if_neg (by omega)]
  · show _ = _; rw [if_pos hm2]
  · show _ = _
    by_cases h : c1 + c2 ≤ u
    · rw [if_pos h, if_pos (by omega)]; omega
    · rw [if_neg h, if_neg (by omega)]
  · intro h; rw [if_pos h]; omega
  · intro h; rw [if_neg (by omega)]; omega

theorem max_two (r w1 w2 : Int) :
    ∃ M1 N1 M : Int, Hid (M1 = mx r w1) ∧ Hid (M = mx M1 w2) ∧ Hid (N1 = mx r w2) ∧ Hid (M = mx N1 w1) ∧ r ≤ M ∧ w1 ≤ M ∧ w2 ≤ M ∧ (M ≤ r ∨ M ≤ w1 ∨ M ≤ w2) := by
  have key : mx (mx r w1) w2 = mx (mx r w2) w1 := by
    unfold mx
    by_cases a : r < w1 <;> by_cases b : r < w2 <;> by_cases c : w1 < w2 <;> by_cases d : w2 < w1 <;> simp [a, b, c, d] <;> omega
  refine ⟨mx r w1, mx r w2, mx (mx r w1) w2, rfl, rfl, rfl, key, ?_⟩
  unfold mx
  by_cases a : r < w1
  · rw [if_pos a]
    by_cases b : w1 < w2
    · rw [if_pos b]; omega
    · rw [if_neg b]; omega
  · rw [if_neg a]
    by_cases b : r < w2
    · rw [if_pos b]; omega
    · rw [if_neg b]; omega

end Go.Proofs.Qxb6615167a
