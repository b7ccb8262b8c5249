import Derived.Test.Qxb6615167aLocks
import Derived.WalkKit
import Derived.WalkSpells
import Derived.WalkLawsBesides
import Derived.Below
import Derived.RegionTactic
import Derived.BigRegion
import Derived.ChangeAlike
namespace Go.Proofs.Qxb6615167a
open Go.RowKit Go.MuLone

/-- THE ACCOUNT IN ITS BLOCK: the lock free; unwritten u; written r; no share. -/
structure Acc (w : World) (A : Nat) (u r : Int) : Prop where
  c0 : w.cell? ⟨A, 0, none⟩ = some (.int .i32 0)
  c8 : w.cell? ⟨A, 8, none⟩ = some (.int .i64 u)
  c9 : w.cell? ⟨A, 9, none⟩ = some (.int .i64 r)
  c10 : w.cell? ⟨A, 10, none⟩ = some .nilIface
  f0 : w.frozen? ⟨A, 0, none⟩ = false
  f8 : w.frozen? ⟨A, 8, none⟩ = false
  f9 : w.frozen? ⟨A, 9, none⟩ = false

/-- A SPENDING IN ITS BLOCK: its account; its cost; is it unshared? -/
structure Spd (w : World) (S : Nat) (a : Option Addr) (c : Int) (f : Bool) : Prop where
  c0 : w.cell? ⟨S, 0, none⟩ = some (.pointer a)
  c1 : w.cell? ⟨S, 1, none⟩ = some (.int .i64 c)
  c6 : w.cell? ⟨S, 6, none⟩ = some (.bool f)
  f6 : w.frozen? ⟨S, 6, none⟩ = false

/-- Only blocks A and S may have turned. -/
structure Keeps (A S : Nat) (w w' : World) : Prop where
  size : w'.heap.size = w.heap.size
  block : ∀ k, k ≠ A → k ≠ S → w'.heap[k]? = w.heap[k]?
  grown : ∀ W, Grown W w → W.heap.size ≤ A → W.heap.size ≤ S → Grown W w'

theorem Keeps.refl (A S : Nat) (w : World) : Keeps A S w w := ⟨rfl, fun _ _ _ => rfl, fun _ h _ _ => h⟩
theorem Keeps.drew {A S : Nat} {w w' : World} (h : Keeps A S w w') : Keeps A S w w'.drew := ⟨h.size, h.block, fun W hW h1 h2 => (h.grown W hW h1 h2).drew⟩
theorem Keeps.setA {A S : Nat} {w w' : World} (h : Keeps A S w w') (o : Nat) (v : Value) : Keeps A S w (w'.setCell ⟨A, o, none⟩ v) :=
  ⟨by simpa using h.size, fun k k1 k2 => (Below.heap_setCell _ ⟨A, o, none⟩ _ k k1).trans (h.block k k1 k2), fun W hW h1 h2 => (h.grown W hW h1 h2).setCell h1 _⟩
theorem Keeps.setS {A S : Nat} {w w' : World} (h : Keeps A S w w') (o : Nat) (v : Value) : Keeps A S w (w'.setCell ⟨S, o, none⟩ v) :=
  ⟨by simpa using h.size, fun k k1 k2 => (Below.heap_setCell _ ⟨S, o, none⟩ _ k k2).trans (h.block k k1 k2), fun W hW h1 h2 => (h.grown W hW h1 h2).setCell h2 _⟩

set_option maxHeartbeats 400000 in
/-- 'shareHeld' on an account with no share: nothing. -/
theorem shareHeld_none (A : Nat) (w : World) (c10 : w.cell? ⟨A, 10, none⟩ = some .nilIface) :
    Calls Try.prog 14 #[.pointer (some ⟨A, 0, none⟩)] w fun e w' => e = .returned (.tuple #[]) ∧ w = w' := by
  go_enter Try.func14, Try.ntmps14
  go_wp2
  go_end0
  exact ⟨rfl, rfl⟩

def mx (r wn : Int) : Int := if r < wn then wn else r

/-- What the stores of one counted 'unshare' leave. -/
theorem unshare_final (A S : Nat) (hAS : A ≠ S) (u r c u' wn : Int) (w : World) (hA : Acc w A u r) (hS : Spd w S (some ⟨A, 0, none⟩) c false) :
    let w' := (((((w.setCell ⟨A, 0, none⟩ (.int .i32 1)).setCell ⟨S, 6, none⟩ (.bool true)).setCell ⟨A, 8, none⟩ (.int .i64 u')).setCell ⟨A, 9, none⟩ (.int .i64 (mx r wn))).drew.setCell ⟨A, 0, none⟩ (.int .i32 0))
    Acc w' A u' (mx r wn) ∧ Spd w' S (some ⟨A, 0, none⟩) c true ∧ Keeps A S w w' := by
  intro w'
  refine ⟨⟨?_, ?_, ?_, ?_, ?_, ?_, ?_⟩, ⟨?_, ?_, ?_, ?_⟩, ((((((Keeps.refl A S w).setA _ _).setS _ _).setA _ _).setA _ _).drew.setA _ _)⟩
  all_goals simp [w', go_sem, hA.c0, hA.c8, hA.c9, hA.c10, hA.f0, hA.f8, hA.f9, hS.c0, hS.c1, hS.c6, hS.f6]

end Go.Proofs.Qxb6615167a
