import Derived.Test.Qxb6618287aRows
import Derived.WalkKit
import Derived.WalkSpells
import Derived.WalkLawsBesides
import Derived.Below
namespace Go.Proofs.Qxb6618287a
open Go.RowKit

/-! ### 'RaisedAbove' by its contract: the greater of the two epochs, and one more; two blocks of its own are made -/
set_option maxHeartbeats 400000 in
theorem raised_hi (s : ByteArray) (e a : Int) (w : World) (h1 : -9223372036854775808 ≤ e) (h2 : a ≤ 9223372036854775806) (h : e < a) :
    Calls Try.prog 6 #[.agg #[.string s, .int .i64 e], .int .i64 a] w fun en w' => en = .returned (.agg #[.string s, .int .i64 (a + 1)]) ∧
      (w.alloc (.cells #[.string s, .int .i64 e] 24)).alloc (.cells #[.string s, .int .i64 (a + 1)] 24) = w' := by
  go_enter Try.func6, Try.ntmps6
  go_wp2
  exact bodyPost_ret (v := .agg #[.string s, .int .i64 (a + 1)]) (by simp [results, Try.results6, go_sem]) rfl ⟨rfl, rfl⟩

set_option maxHeartbeats 400000 in
theorem raised_lo (s : ByteArray) (e a : Int) (w : World) (h1 : -9223372036854775808 ≤ a) (h2 : e ≤ 9223372036854775806) (h : a ≤ e) :
    Calls Try.prog 6 #[.agg #[.string s, .int .i64 e], .int .i64 a] w fun en w' => en = .returned (.agg #[.string s, .int .i64 (e + 1)]) ∧
      (w.alloc (.cells #[.string s, .int .i64 e] 24)).alloc (.cells #[.string s, .int .i64 (e + 1)] 24) = w' := by
  go_enter Try.func6, Try.ntmps6
  go_wp2
  exact bodyPost_ret (v := .agg #[.string s, .int .i64 (e + 1)]) (by simp [results, Try.results6, go_sem]) rfl ⟨rfl, rfl⟩

theorem bytes5 (s : ByteArray) (a b : Int) (w : World) (h : s.size ≤ 1048576) :
    Calls Try.prog 5 #[.string s, .int .i64 a, .int .i64 b] w fun e w' => e = .returned (.bool true) ∧ w = w' := by
  go_enter Try.func5, Try.ntmps5
  go_wp2
  go_ret
  exact ⟨rfl, rfl⟩

end Go.Proofs.Qxb6618287a
