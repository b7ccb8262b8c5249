import Derived.Test.Qxb6615167aFew
namespace Go.Proofs.Qxb6615167a
open Go.RowKit Go.MuLone

/-- One block more; all else as it was. -/
structure Made (w w' : World) : Prop where
  size : w'.heap.size = w.heap.size + 1
  block : ∀ k, k < w.heap.size → w'.heap[k]? = w.heap[k]?
  grown : ∀ W, Grown W w → Grown W w'

theorem Made.alloc (w : World) (c : Array Value) (t : TypeId) : Made w (w.alloc (.cells c t)) :=
  ⟨by simp, fun k hk => Below.heap_alloc _ _ _ hk, fun _ h => h.alloc _ _⟩

theorem Acc.of_block {w w' : World} {A : Nat} {u r : Int} (h : Acc w A u r) (e : w'.heap[A]? = w.heap[A]?) : Acc w' A u r :=
  ⟨(World.cell?_of_block (w := w) (a := ⟨A, 0, none⟩) e).trans h.c0, (World.cell?_of_block (w := w) (a := ⟨A, 8, none⟩) e).trans h.c8, (World.cell?_of_block (w := w) (a := ⟨A, 9, none⟩) e).trans h.c9,
   (World.cell?_of_block (w := w) (a := ⟨A, 10, none⟩) e).trans h.c10, (World.frozen?_of_block (w := w) (a := ⟨A, 0, none⟩) e).trans h.f0, (World.frozen?_of_block (w := w) (a := ⟨A, 8, none⟩) e).trans h.f8, (World.frozen?_of_block (w := w) (a := ⟨A, 9, none⟩) e).trans h.f9⟩

theorem Spd.of_block {w w' : World} {S : Nat} {a : Option Addr} {c : Int} {f : Bool} (h : Spd w S a c f) (e : w'.heap[S]? = w.heap[S]?) : Spd w' S a c f :=
  ⟨(World.cell?_of_block (w := w) (a := ⟨S, 0, none⟩) e).trans h.c0, (World.cell?_of_block (w := w) (a := ⟨S, 1, none⟩) e).trans h.c1, (World.cell?_of_block (w := w) (a := ⟨S, 6, none⟩) e).trans h.c6,
   (World.frozen?_of_block (w := w) (a := ⟨S, 6, none⟩) e).trans h.f6⟩

theorem Acc.made {w w' : World} {A : Nat} {u r : Int} (h : Acc w A u r) (m : Made w w') : Acc w' A u r := h.of_block (m.block A (World.block_lt_of_cell? _ _ h.c0))
theorem Spd.made {w w' : World} {S : Nat} {a : Option Addr} {c : Int} {f : Bool} (h : Spd w S a c f) (m : Made w w') : Spd w' S a c f := h.of_block (m.block S (World.block_lt_of_cell? _ _ h.c0))

/-! ### the makers -/
set_option maxHeartbeats 400000 in
theorem newAccount (u r : Int) (w : World) :
    Calls Try.prog 5 #[.int .i64 u, .int .i64 r] w fun e w' => e = .returned (.pointer (some ⟨w.heap.size, 0, none⟩)) ∧ Acc w' w.heap.size u r ∧ Made w w' := by
  go_enter Try.func5, Try.ntmps5
  go_wp2
  go_ret
  exact ⟨rfl, ⟨by simp [go_sem], by simp [go_sem], by simp [go_sem], by simp [go_sem], by simp [go_sem], by simp [go_sem], by simp [go_sem]⟩, Made.alloc _ _ _⟩

set_option maxHeartbeats 400000 in
theorem newSpending (a : Option Addr) (c : Int) (f : Bool) (w : World) :
    Calls Try.prog 6 #[.pointer a, .int .i64 c, .bool f] w fun e w' => e = .returned (.pointer (some ⟨w.heap.size, 0, none⟩)) ∧ Spd w' w.heap.size a c f ∧ Made w w' := by
  go_enter Try.func6, Try.ntmps6
  go_wp2
  go_ret
  exact ⟨rfl, ⟨by simp [go_sem], by simp [go_sem], by simp [go_sem], by simp [go_sem]⟩, Made.alloc _ _ _⟩

/-! ### the readers -/
theorem unwrittenOf (A : Nat) (u r : Int) (w : World) (h : Acc w A u r) : Calls Try.prog 8 #[.pointer (some ⟨A, 0, none⟩)] w fun e w' => e = .returned (.int .i64 u) ∧ w = w' := by
  have c8 := h.c8
  go_enter Try.func8, Try.ntmps8
  go_wp2
  go_ret
  exact ⟨rfl, rfl⟩

theorem writtenOf (A : Nat) (u r : Int) (w : World) (h : Acc w A u r) : Calls Try.prog 9 #[.pointer (some ⟨A, 0, none⟩)] w fun e w' => e = .returned (.int .i64 r) ∧ w = w' := by
  have c9 := h.c9
  go_enter Try.func9, Try.ntmps9
  go_wp2
  go_ret
  exact ⟨rfl, rfl⟩

theorem unsharedOf (S : Nat) (a : Option Addr) (c : Int) (f : Bool) (w : World) (h : Spd w S a c f) : Calls Try.prog 10 #[.pointer (some ⟨S, 0, none⟩)] w fun e w' => e = .returned (.bool f) ∧ w = w' := by
  have c6 := h.c6
  go_enter Try.func10, Try.ntmps10
  go_wp2
  go_ret
  exact ⟨rfl, rfl⟩

/-! ### 'unshare' of a spending with no account, and of one that is unshared already -/
set_option maxHeartbeats 400000 in
theorem unshare_nil (S : Nat) (c wn : Int) (f : Bool) (w : World) (h : Spd w S none c f) :
    Calls Try.prog 11 #[.pointer (some ⟨S, 0, none⟩), .int .i64 wn] w fun e w' => e = .returned (.tuple #[]) ∧ w = w' := by
  have s0 := h.c0
  go_enter Try.func11, Try.ntmps11
  go_wp2
  exact bodyPost_ret (results_none rfl _ _ _) rfl ⟨rfl, rfl⟩

set_option maxHeartbeats 400000 in
theorem unshare_done (A S : Nat) (hAS : A ≠ S) (u r c wn : Int) (w : World) (hA : Acc w A u r) (hS : Spd w S (some ⟨A, 0, none⟩) c true) :
    Calls Try.prog 11 #[.pointer (some ⟨S, 0, none⟩), .int .i64 wn] w fun e w' => e = .returned (.tuple #[]) ∧ Acc w' A u r ∧ Spd w' S (some ⟨A, 0, none⟩) c true ∧ Keeps A S w w' := by
  have a0 := hA.c0
  have b0 := hA.f0
  have s0 := hS.c0
  have s6 := hS.c6
  go_enter_defers Try.func11, Try.ntmps11
  go_wp2_with (go_at_call 12; refine (lock_free muLib ⟨A, 0, none⟩ _ a0 b0).mono ?_; rintro e w' ⟨rfl, rfl⟩)
  refine leaves_cons (f := 13) (args := #[.pointer (some ⟨A, 0, none⟩)]) (by simp) (by simp [go_sem]) ?_
  refine (unlock_deferred muLib ⟨A, 0, none⟩ .returning _ (by simp [go_sem, a0]) (by simp [go_sem, b0])).mono ?_
  rintro e u' w'' ⟨rfl, rfl, rfl⟩
  refine ⟨_, results_none rfl _ _ _, rfl, ⟨?_, ?_, ?_, ?_, ?_, ?_, ?_⟩, ⟨?_, ?_, ?_, ?_⟩, ((Keeps.refl A S w).setA _ _).setA _ _⟩
  all_goals simp [go_sem, hA.c0, hA.c8, hA.c9, hA.c10, hA.f0, hA.f8, hA.f9, hS.c0, hS.c1, hS.c6, hS.f6]

theorem zzunshare (S : Nat) (wn : Int) (w : World) {R : World → Prop} (h : Calls Try.prog 11 #[.pointer (some ⟨S, 0, none⟩), .int .i64 wn] w fun e w' => e = .returned (.tuple #[]) ∧ R w') :
    Calls Try.prog 7 #[.pointer (some ⟨S, 0, none⟩), .int .i64 wn] w fun e w' => e = .returned (.tuple #[]) ∧ R w' := by
  have H : Hid (Calls Try.prog 11 #[.pointer (some ⟨S, 0, none⟩), .int .i64 wn] w fun e w' => e = .returned (.tuple #[]) ∧ R w') := h
  clear h
  go_enter Try.func7, Try.ntmps7
  go_wp2_with fail
  refine H.out.mono ?_
  rintro e w' ⟨rfl, hR⟩
  go_wp2
  go_end0
  exact ⟨rfl, hR⟩

end Go.Proofs.Qxb6615167a
