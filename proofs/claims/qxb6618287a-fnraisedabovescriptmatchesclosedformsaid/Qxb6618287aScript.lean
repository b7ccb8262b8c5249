import Derived.Test.Qxb6618287aWalks
namespace Go.Proofs.Qxb6618287a
open Go.RowKit

theorem raised_any (s : ByteArray) (e a E' : Int) (w : World) (h1 : -9223372036854775808 ≤ e) (h2 : e ≤ 9223372036854775806) (h3 : -9223372036854775808 ≤ a) (h4 : a ≤ 9223372036854775806) (hE : Hid (E' = (if e < a then a else e) + 1)) :
    Calls Try.prog 6 #[.agg #[.string s, .int .i64 e], .int .i64 a] w fun en w' => en = .returned (.agg #[.string s, .int .i64 E']) ∧ Below w.heap.size w w' := by
  have hE := hE.out
  subst hE
  by_cases h : e < a
  · rw [if_pos h]
    refine (raised_hi s e a w h1 h4 h).mono ?_
    rintro en w' ⟨rfl, rfl⟩
    exact ⟨rfl, ((Below.refl _ _).alloc (Nat.le_refl _) _).alloc (by simp) _⟩
  · rw [if_neg h]
    refine (raised_lo s e a w h3 h2 (by omega)).mono ?_
    rintro en w' ⟨rfl, rfl⟩
    exact ⟨rfl, ((Below.refl _ _).alloc (Nat.le_refl _) _).alloc (by simp) _⟩

set_option maxHeartbeats 400000 in
theorem bytes7_yes (s : ByteArray) (e : Int) (a : Option Addr) (n cap : Nat) (w : World) (h : s.size + n ≤ 1048576) :
    Calls Try.prog 7 #[.string s, .int .i64 e, .slice a n cap] w fun en w' => en = .returned (.bool true) ∧ w = w' := by
  go_enter Try.func7, Try.ntmps7
  go_wp2
  go_ret
  exact ⟨rfl, rfl⟩

set_option maxHeartbeats 400000 in
theorem bytes7_no (s : ByteArray) (e : Int) (a : Option Addr) (n cap : Nat) (w : World) (h : 1048576 < s.size + n) (hs : s.size ≤ 9223372036854775807) (hn : n ≤ 9223372036854775807) :
    Calls Try.prog 7 #[.string s, .int .i64 e, .slice a n cap] w fun en w' => en = .returned (.bool false) ∧ w = w' := by
  by_cases h1 : 1048576 < s.size
  · go_enter Try.func7, Try.ntmps7
    go_wp2
    go_ret
    exact ⟨rfl, rfl⟩
  by_cases h2 : 1048576 < n
  · go_enter Try.func7, Try.ntmps7
    go_wp2
    go_ret
    exact ⟨rfl, rfl⟩
  · go_enter Try.func7, Try.ntmps7
    go_wp2
    go_ret
    exact ⟨rfl, rfl⟩

set_option maxHeartbeats 1000000 in
set_option maxRecDepth 100000 in
theorem exit_size (s : ByteArray) (e : Int) (a : Option Addr) (n cap : Nat) (w : World) (hs : s.size ≤ 9223372036854775807) (hn : n ≤ 9223372036854775807) (h : 1048576 < s.size + 8 * n) :
    Calls Try.prog 4 #[.string s, .int .i64 e, .slice a n cap] w fun en w' => en = .returned (.bool true) ∧ Below w.heap.size w w' := by
  by_cases h1 : 1048576 < s.size + n
  · go_enter Try.func4, Try.ntmps4
    go_wp2_with (go_at_call 7; refine (bytes7_no _ _ _ _ _ _ h1 hs hn).mono ?_; rintro e w' ⟨rfl, rfl⟩)
    go_ret
    exact ⟨rfl, Below.refl _ _⟩
  by_cases h2 : 131072 < n
  · go_enter Try.func4, Try.ntmps4
    go_wp2_with (go_at_call 7; refine (bytes7_yes _ _ _ _ _ _ (by omega)).mono ?_; rintro e w' ⟨rfl, rfl⟩)
    go_ret
    exact ⟨rfl, Below.refl _ _⟩
  · go_enter Try.func4, Try.ntmps4
    go_wp2_with (go_at_call 7; refine (bytes7_yes _ _ _ _ _ _ (by omega)).mono ?_; rintro e w' ⟨rfl, rfl⟩)
    go_ret
    exact ⟨rfl, Below.refl _ _⟩

set_option maxHeartbeats 1000000 in
set_option maxRecDepth 100000 in
theorem exit_epoch (s : ByteArray) (e : Int) (a : Option Addr) (n cap : Nat) (w : World) (hs : s.size + 8 * n ≤ 1048576) (h : 9223372036854775807 - (n : Int) < e) :
    Calls Try.prog 4 #[.string s, .int .i64 e, .slice a n cap] w fun en w' => en = .returned (.bool true) ∧ Below w.heap.size w w' := by
  go_enter Try.func4, Try.ntmps4
  go_wp2_with (go_at_call 7; refine (bytes7_yes _ _ _ _ _ _ (by omega)).mono ?_; rintro e w' ⟨rfl, rfl⟩)
  go_ret
  exact ⟨rfl, Below.refl _ _⟩

end Go.Proofs.Qxb6618287a
