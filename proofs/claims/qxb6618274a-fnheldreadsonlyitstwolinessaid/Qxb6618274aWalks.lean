import Derived.Test.Qxb6618274aRows
import Derived.WalkKit
import Derived.WalkSpells
import Derived.WalkLawsBesides
import Derived.Below
import Derived.Deep.OwnRows
import Derived.Deep.QuietTactic
import Derived.BigQuiet
import Derived.Laws.CopyOwn
namespace Go.Proofs.Qxb6618274a
open Go.RowKit Go.Deep

theorem bytes_ok (a0 a1 : Int) (a2 : Bool) (a : Option Addr) (len cap : Nat) (a4 a5 : Int) (w : World) (h : len ≤ 65536) :
    Calls Try.prog 4 #[.int .i64 a0, .int .i64 a1, .bool a2, .slice a len cap, .int .i64 a4, .int .u8 a5] w fun e w' => e = .returned (.bool true) ∧ w = w' := by
  go_enter Try.func4, Try.ntmps4
  go_wp2
  go_ret
  exact ⟨rfl, rfl⟩

set_option maxHeartbeats 400000 in
theorem dropped_yes (x : Nat) (g n : Nat) (w : World) (hn : n ≤ 65536) (hx : x < n) (hc : w.cell? ⟨g, x, none⟩ = some (.int .u8 3)) :
    Calls Try.prog 6 #[.int .i64 ((x : Int) + 1), .slice (some ⟨g, 0, none⟩) n n] w fun e w' => e = .returned (.bool true) ∧ w = w' := by
  go_enter Try.func6, Try.ntmps6
  go_wp2
  go_ret
  exact ⟨rfl, rfl⟩

set_option maxHeartbeats 400000 in
theorem dropped_no (x : Nat) (g n : Nat) (z : Int) (w : World) (hn : n ≤ 65536) (hx : x < n) (hc : w.cell? ⟨g, x, none⟩ = some (.int .u8 z)) (hz : (z == 3) = false) :
    Calls Try.prog 6 #[.int .i64 ((x : Int) + 1), .slice (some ⟨g, 0, none⟩) n n] w fun e w' => e = .returned (.bool false) ∧ w = w' := by
  go_enter Try.func6, Try.ntmps6
  go_wp2
  go_ret
  exact ⟨rfl, rfl⟩

set_option maxHeartbeats 400000 in
theorem dropped_zero (g n : Nat) (w : World) :
    Calls Try.prog 6 #[.int .i64 0, .slice (some ⟨g, 0, none⟩) n n] w fun e w' => e = .returned (.bool false) ∧ w = w' := by
  go_enter Try.func6, Try.ntmps6
  go_wp2
  go_ret
  exact ⟨rfl, rfl⟩

set_option maxHeartbeats 400000 in
theorem held_zero (cut : Int) (op : Bool) (g n : Nat) (w : World) :
    Calls Try.prog 7 #[.agg #[.int .i64 0, .int .i64 cut, .bool op], .slice (some ⟨g, 0, none⟩) n n] w fun e w' => e = .returned (.slice none 0 0) ∧ Below w.heap.size w w' := by
  go_enter Try.func7, Try.ntmps7
  go_wp2
  go_ret
  exact ⟨rfl, (Below.refl _ _).alloc (Nat.le_refl _) _⟩

/-- The box of the receiver, laid by the call itself. -/
theorem old_cell {w : World} {o : Obj} {g x : Nat} {v : Value} (hg : g < w.heap.size) (hc : w.cell? ⟨g, x, none⟩ = some v) : (w.alloc o).cell? ⟨g, x, none⟩ = some v := by
  rw [← hc]; exact ((Below.refl w.heap.size w).alloc (Nat.le_refl _) _).cell hg

set_option maxHeartbeats 400000 in
theorem held_no (x : Nat) (cut : Int) (op : Bool) (g n : Nat) (z : Int) (w : World) (hn : n ≤ 65536) (hx : x < n) (hg : g < w.heap.size) (hc : w.cell? ⟨g, x, none⟩ = some (.int .u8 z)) (hz : (z != 3) = true) :
    Calls Try.prog 7 #[.agg #[.int .i64 ((x : Int) + 1), .int .i64 cut, .bool op], .slice (some ⟨g, 0, none⟩) n n] w fun e w' => e = .returned (.slice none 0 0) ∧ Below w.heap.size w w' := by
  have hc' := old_cell (o := .cells #[.int .i64 ((x : Int) + 1), .int .i64 cut, .bool op] 30) hg hc
  have h0 : ((x : Int) + 1 == 0) = false := by simp; omega
  go_enter Try.func7, Try.ntmps7
  go_wp2
  go_ret
  exact ⟨rfl, (Below.refl _ _).alloc (Nat.le_refl _) _⟩

set_option maxHeartbeats 400000 in
theorem held_one0 (x : Nat) (op : Bool) (g n : Nat) (w : World) (hn : n ≤ 65536) (hx : x < n) (hg : g < w.heap.size) (hc : w.cell? ⟨g, x, none⟩ = some (.int .u8 3)) :
    Calls Try.prog 7 #[.agg #[.int .i64 ((x : Int) + 1), .int .i64 0, .bool op], .slice (some ⟨g, 0, none⟩) n n] w fun e w' => ∃ b, e = .returned (.slice (some ⟨b, 0, none⟩) 1 1) ∧ w.heap.size ≤ b ∧ b < w'.heap.size ∧ w'.cell? ⟨b, 0, none⟩ = some (.int .i64 ((x : Int) + 1)) ∧ Below w.heap.size w w' := by
  have hc' := old_cell (o := .cells #[.int .i64 ((x : Int) + 1), .int .i64 0, .bool op] 30) hg hc
  have h0 : ((x : Int) + 1 == 0) = false := by simp; omega
  go_enter Try.func7, Try.ntmps7
  go_wp2
  go_ret
  exact ⟨_, rfl, by simp, by simp, by simp, ((Below.refl _ _).alloc (Nat.le_refl _) _).alloc (by simp) _⟩

set_option maxHeartbeats 400000 in
theorem held_one (x y : Nat) (op : Bool) (g n : Nat) (z : Int) (w : World) (hn : n ≤ 65536) (hx : x < n) (hy : y < n) (hg : g < w.heap.size) (hc : w.cell? ⟨g, x, none⟩ = some (.int .u8 3)) (hd : w.cell? ⟨g, y, none⟩ = some (.int .u8 z)) (hz : (z == 3) = false) :
    Calls Try.prog 7 #[.agg #[.int .i64 ((x : Int) + 1), .int .i64 ((y : Int) + 1), .bool op], .slice (some ⟨g, 0, none⟩) n n] w fun e w' => ∃ b, e = .returned (.slice (some ⟨b, 0, none⟩) 1 1) ∧ w.heap.size ≤ b ∧ b < w'.heap.size ∧ w'.cell? ⟨b, 0, none⟩ = some (.int .i64 ((x : Int) + 1)) ∧ Below w.heap.size w w' := by
  have hc' := old_cell (o := .cells #[.int .i64 ((x : Int) + 1), .int .i64 ((y : Int) + 1), .bool op] 30) hg hc
  have hd' := old_cell (o := .cells #[.int .i64 ((x : Int) + 1)] 3) (by simp; omega) (old_cell (o := .cells #[.int .i64 ((x : Int) + 1), .int .i64 ((y : Int) + 1), .bool op] 30) hg hd)
  have h0 : ((x : Int) + 1 == 0) = false := by simp; omega
  have h1 : ((y : Int) + 1 != 0) = true := by simp; omega
  go_enter Try.func7, Try.ntmps7
  go_wp2
  go_ret
  exact ⟨_, rfl, by simp, by simp, by simp, ((Below.refl _ _).alloc (Nat.le_refl _) _).alloc (by simp) _⟩

theorem info3 : (Try.prog.info? 3).map (fun i => (i.zero, i.size, i.bytes)) = some (some (.int .i64 0), 1, 8) := by kernel_rfl

set_option maxHeartbeats 400000 in
theorem held_two (x y : Nat) (op : Bool) (g n : Nat) (w : World) (hn : n ≤ 65536) (hx : x < n) (hy : y < n) (hg : g < w.heap.size) (hc : w.cell? ⟨g, x, none⟩ = some (.int .u8 3)) (hd : w.cell? ⟨g, y, none⟩ = some (.int .u8 3)) :
    Calls Try.prog 7 #[.agg #[.int .i64 ((x : Int) + 1), .int .i64 ((y : Int) + 1), .bool op], .slice (some ⟨g, 0, none⟩) n n] w fun e w' => ∃ b c, e = .returned (.slice (some ⟨b, 0, none⟩) 2 c) ∧ w.heap.size ≤ b ∧ b < w'.heap.size ∧ w'.cell? ⟨b, 0, none⟩ = some (.int .i64 ((x : Int) + 1)) ∧ w'.cell? ⟨b, 1, none⟩ = some (.int .i64 ((y : Int) + 1)) ∧ Below w.heap.size w w' := by
  have hc' := old_cell (o := .cells #[.int .i64 ((x : Int) + 1), .int .i64 ((y : Int) + 1), .bool op] 30) hg hc
  have hd' := old_cell (o := .cells #[.int .i64 ((x : Int) + 1)] 3) (by simp; omega) (old_cell (o := .cells #[.int .i64 ((x : Int) + 1), .int .i64 ((y : Int) + 1), .bool op] 30) hg hd)
  have h0 : ((x : Int) + 1 == 0) = false := by simp; omega
  have h1 : ((y : Int) + 1 != 0) = true := by simp; omega
  obtain ⟨i0, hi, hz0, hz1, hz2⟩ := info_parts info3
  go_enter Try.func7, Try.ntmps7
  go_wp2
  go_ret
  refine ⟨_, _, rfl, by omega, by simp, ?_, ?_, ?_⟩
  · simp [go_sem]; rw [Array.getElem?_append_left (by simp)]; rfl
  · simp [go_sem]; rw [Array.getElem?_append_left (by simp)]; rfl
  · exact (((((Below.refl _ _).alloc (Nat.le_refl _) _).alloc (by simp) _).alloc (by simp; omega) _).alloc (by simp; omega) _).drew

/-- THE PLAIN FUNCTION of 'held': line l, cut c, the kinds by their index. -/
def heldL (l c : Nat) (Z : Nat → Int) : List Int :=
  match l with
  | 0 => []
  | x + 1 => if Z x = 3 then (match c with
    | 0 => [(x : Int) + 1]
    | y + 1 => if Z y = 3 then [(x : Int) + 1, (y : Int) + 1] else [(x : Int) + 1]) else []

/-- What is known of a slice value whose elements are the numbers L: nil where there are none; else a row among the blocks of w'. -/
def Cells (w' : World) (a : Option Addr) (L : List Int) : Prop :=
  ∀ i, i < L.length → ∃ b, a = some ⟨b, 0, none⟩ ∧ b < w'.heap.size ∧ w'.cell? ⟨b, i, none⟩ = some (.int .i64 (L.getD i 0))

theorem held_any (l c n g : Nat) (op : Bool) (Z : Nat → Int) (w : World) (hn : n ≤ 65536) (hl : l ≤ n) (hc : c ≤ n) (hg : g < w.heap.size) (hZ : ∀ i, i < n → w.cell? ⟨g, i, none⟩ = some (.int .u8 (Z i))) :
    Calls Try.prog 7 #[.agg #[.int .i64 (l : Int), .int .i64 (c : Int), .bool op], .slice (some ⟨g, 0, none⟩) n n] w fun e w' =>
      ∃ a cap, e = .returned (.slice a (heldL l c Z).length cap) ∧ Below w.heap.size w w' ∧ Cells w' a (heldL l c Z) := by
  match l, c with
  | 0, c =>
    refine (held_zero (c : Int) op g n w).mono fun e w' ⟨he, hb⟩ => ?_
    exact ⟨none, 0, he, hb, fun i hi => absurd hi (by simp [heldL])⟩
  | x + 1, c =>
    by_cases hx : Z x = 3
    · have hcx := hZ x (by omega)
      rw [hx] at hcx
      match c with
      | 0 =>
        have e0 : heldL (x + 1) 0 Z = [(x : Int) + 1] := by simp [heldL, hx]
        refine (held_one0 x op g n w hn (by omega) hg hcx).mono fun e w' ⟨b, he, _, hbs, hb0, hb⟩ => ?_
        rw [e0]
        refine ⟨_, 1, he, hb, fun i hi => ⟨b, rfl, hbs, ?_⟩⟩
        obtain rfl : i = 0 := by simpa using hi
        exact hb0
      | y + 1 =>
        have hcy := hZ y (by omega)
        by_cases hy : Z y = 3
        · rw [hy] at hcy
          have e0 : heldL (x + 1) (y + 1) Z = [(x : Int) + 1, (y : Int) + 1] := by simp [heldL, hx, hy]
          refine (held_two x y op g n w hn (by omega) (by omega) hg hcx hcy).mono fun e w' ⟨b, cap, he, _, hbs, hb0, hb1, hb⟩ => ?_
          rw [e0]
          refine ⟨_, cap, he, hb, fun i hi => ⟨b, rfl, hbs, ?_⟩⟩
          have hi' : i < 2 := by simpa using hi
          match i, hi' with
          | 0, _ => exact hb0
          | 1, _ => exact hb1
        · have e0 : heldL (x + 1) (y + 1) Z = [(x : Int) + 1] := by simp [heldL, hx, hy]
          refine (held_one x y op g n (Z y) w hn (by omega) (by omega) hg hcx hcy (by simpa using hy)).mono fun e w' ⟨b, he, _, hbs, hb0, hb⟩ => ?_
          rw [e0]
          refine ⟨_, 1, he, hb, fun i hi => ⟨b, rfl, hbs, ?_⟩⟩
          obtain rfl : i = 0 := by simpa using hi
          exact hb0
    · have e0 : heldL (x + 1) c Z = [] := by simp [heldL, hx]
      refine (held_no x (c : Int) op g n (Z x) w hn (by omega) hg (hZ x (by omega)) (by simpa using hx)).mono fun e w' ⟨he, hb⟩ => ?_
      rw [e0]
      exact ⟨none, 0, he, hb, fun i hi => absurd hi (by simp)⟩

theorem info28 : (Try.prog.info? 28).map (fun i => (i.zero, i.size, i.bytes)) = some (some (.int .u8 0), 1, 1) := by kernel_rfl
theorem info5 : (Try.prog.info? 5).map (fun i => (i.zero, i.size, i.bytes)) = some (some (.int .u8 0), 1, 1) := by kernel_rfl

/-- WHAT HOLDS AT A COPYING LOOP's HEAD, k cells gone over: the new row is block g of wr, which has G blocks; below B nothing has turned. -/
structure Copied (B : Nat) (w wr : World) (g G : Nat) (t : TypeId) (n k : Nat) (Z : Nat → Int) : Prop where
  below : Below B w wr
  size : wr.heap.size = G
  row : wr.rowIs g t n (fun j => if j < k then .int .u8 (Z j) else .int .u8 0)

theorem Copied.start {B : Nat} {w w1 : World} (t : TypeId) (n : Nat) (Z : Nat → Int) (h : Below B w w1) (hB : B ≤ w1.heap.size) :
    Copied B w (w1.alloc (.cells (madeCells #[.int .u8 0] n) t)) w1.heap.size (w1.heap.size + 1) t n 0 Z :=
  ⟨h.alloc hB _, by simp, (World.rowIs_made w1 _ n t).congr (fun j _ => by simp)⟩

theorem Copied.step {B : Nat} {w wr : World} {g G : Nat} {t : TypeId} {n k : Nat} {Z : Nat → Int} (h : Copied B w wr g G t n k Z) (hg : B ≤ g) :
    Copied B w (wr.setCell ⟨g, k, none⟩ (.int .u8 (Z k))) g G t n (k + 1) Z := by
  refine ⟨h.below.setCell hg _, by simpa using h.size, (h.row.set k _).congr (fun j _ => ?_)⟩
  by_cases e : j = k
  · subst e; simp
  · rw [if_neg e]
    by_cases hlt : j < k
    · rw [if_pos hlt, if_pos (by omega)]
    · rw [if_neg hlt, if_neg (by omega)]

set_option maxHeartbeats 400000 in
theorem zzheld_any (l c n g : Nat) (op : Bool) (Z : Nat → Int) (w : World) (hn : n ≤ 65536) (hl : l ≤ n) (hc : c ≤ n) (hg : g < w.heap.size) (hZ : ∀ i, i < n → w.cell? ⟨g, i, none⟩ = some (.int .u8 (Z i))) :
    Calls Try.prog 5 #[.int .i64 (l : Int), .int .i64 (c : Int), .bool op, .slice (some ⟨g, 0, none⟩) n n] w fun e w' =>
      ∃ a cap, e = .returned (.slice a (heldL l c Z).length cap) ∧ Below w.heap.size w w' ∧ Cells w' a (heldL l c Z) := by
  have hmk := run_make_row' (P := Try.prog) 27 28 (.int .u8 0) 1 Try.underlying27 info28 rfl .i64 .i64 n (by omega) (by omega)
  have hst := Copied.start 28 n Z (Below.refl w.heap.size w) (Nat.le_refl _)
  go_enter Try.func5, Try.ntmps5
  go_wp2
  clear hmk
  go_loopw [10] (fun i wr => ∃ k : Nat, k ≤ n ∧ i = .int .i64 k ∧ Copied w.heap.size w wr w.heap.size (w.heap.size + 1) 28 n k Z) (fun i _ => n - (intOf i).toNat)
  case atStart => exact ⟨0, Nat.zero_le _, rfl, hst⟩
  case round =>
    obtain ⟨k, hk, rfl, hI⟩ := hrel
    clear hst
    by_cases hlt : k < n
    · have g1 : wr.cell? ⟨g, k, none⟩ = some (.int .u8 (Z k)) := (hI.below.cell (p := ⟨g, k, none⟩) hg).trans (hZ k hlt)
      have g2 : wr.cell? ⟨w.heap.size, k, none⟩ = some (.int .u8 0) := by simpa using hI.row.cell hlt
      have g3 : wr.frozen? ⟨w.heap.size, k, none⟩ = false := hI.row.frozen k
      have hI' := hI.step (Nat.le_refl _)
      clear hI hZ
      go_wp2
      go_roundw
      case rel => exact ⟨k + 1, by omega, by go_num, hI'⟩
      case measure => simp [intOf]; omega
    · obtain rfl : k = n := by omega
      have hsz := hI.size
      have hZ' : ∀ i, i < k → wr.cell? ⟨w.heap.size, i, none⟩ = some (.int .u8 (Z i)) := fun i hi => by simpa [hi] using hI.row.cell hi
      have hbl := hI.below
      have HZ : Hid (∀ i, i < k → wr.cell? ⟨w.heap.size, i, none⟩ = some (.int .u8 (Z i))) := hZ'
      clear hI hZ hZ'
      go_wp2_with fail
      refine (held_any l c k w.heap.size op Z _ hn hl hc (by omega) HZ.out).mono ?_
      rintro e w' ⟨a, cap, rfl, hb', hcl⟩
      go_wp2
      go_ret
      exact ⟨a, cap, rfl, hbl.trans (hb'.mono (by omega)), hcl⟩

end Go.Proofs.Qxb6618274a
