import Derived.Test.Qxb6618274aWalks
namespace Go.Proofs.Qxb6618274a
open Go.RowKit Go.Deep

/-! ### THE PLAIN LAW -/
def dropB (l : Nat) (Z : Nat → Int) : Bool := match l with
  | 0 => false
  | x + 1 => Z x == 3

theorem held_same {l c p : Nat} {Z Z' : Nat → Int} (h : ∀ j, j ≠ p → Z' j = Z j) (hl : p + 1 ≠ l) (hc : p + 1 ≠ c) : heldL l c Z' = heldL l c Z := by
  match l, c with
  | 0, _ => rfl
  | x + 1, 0 => simp [heldL, h x (by omega)]
  | x + 1, y + 1 => simp [heldL, h x (by omega), h y (by omega)]

theorem held_len (l c : Nat) (Z : Nat → Int) : (heldL l c Z).length ≤ 2 := by
  match l, c with
  | 0, _ => simp [heldL]
  | x + 1, 0 => simp only [heldL]; split <;> simp
  | x + 1, y + 1 => simp only [heldL]; (repeat' split) <;> simp

theorem held_drop (l c : Nat) (Z : Nat → Int) : dropB l Z = decide ((0 : Int) < ((heldL l c Z).length : Int)) := by
  match l, c with
  | 0, _ => simp [heldL, dropB]
  | x + 1, 0 => by_cases h : Z x = 3 <;> simp [heldL, dropB, h]
  | x + 1, y + 1 => by_cases h : Z x = 3 <;> by_cases h' : Z y = 3 <;> simp [heldL, dropB, h, h']

theorem held_0 {l c : Nat} {Z : Nat → Int} (hp : 0 < (heldL l c Z).length) : (heldL l c Z).getD 0 0 = (l : Int) ∧ dropB l Z = true := by
  match l, c with
  | 0, _ => simp [heldL] at hp
  | x + 1, 0 => by_cases h : Z x = 3 <;> simp [heldL, dropB, h] at hp ⊢
  | x + 1, y + 1 => by_cases h : Z x = 3 <;> by_cases h' : Z y = 3 <;> simp [heldL, dropB, h, h'] at hp ⊢

theorem held_1 {l c : Nat} {Z : Nat → Int} (hp : 1 < (heldL l c Z).length) : (heldL l c Z).getD 1 0 = (c : Int) ∧ dropB c Z = true := by
  match l, c with
  | 0, _ => simp [heldL] at hp
  | x + 1, 0 => by_cases h : Z x = 3 <;> simp [heldL, h] at hp
  | x + 1, y + 1 => by_cases h : Z x = 3 <;> by_cases h' : Z y = 3 <;> simp [heldL, dropB, h, h'] at hp ⊢

theorem dropped_any (l n g : Nat) (Z : Nat → Int) (v : Bool) (hv : dropB l Z = v) (w : World) (hn : n ≤ 65536) (hl : l ≤ n) (hZ : ∀ i, i < n → w.cell? ⟨g, i, none⟩ = some (.int .u8 (Z i))) :
    Calls Try.prog 6 #[.int .i64 (l : Int), .slice (some ⟨g, 0, none⟩) n n] w fun e w' => e = .returned (.bool v) ∧ w = w' := by
  subst hv
  match l with
  | 0 => exact dropped_zero g n w
  | x + 1 =>
    have hc := hZ x (by omega)
    by_cases h : Z x = 3
    · rw [h] at hc
      have e0 : dropB (x + 1) Z = true := by simp [dropB, h]
      rw [e0]
      exact dropped_yes x g n w hn (by omega) hc
    · have e0 : dropB (x + 1) Z = false := by simp [dropB, h]
      rw [e0]
      exact dropped_no x g n (Z x) w hn (by omega) hc (by simpa using h)

/-! ### 'copy' of a whole row, as a run equation for the walk -/
theorem run_copy_whole {P : Program} (w : World) (dT sT ty elem : TypeId) (hu : P.underlying dT = some (.slice elem)) (hsz : (P.info? elem).map (·.size) = some 1)
    (g n : Nat) (ad : Addr) (sCap : Nat) (t : TypeId) (f : Nat → Value) (hrow : w.rowIs g t n f) (Z : Nat → Int) (hsrc : ∀ j, j < n → w.cell? (ad.add j) = some (.int .u8 (Z j))) (B : Nat) (w0 : World) (hb : Below B w0 w) (hBg : B ≤ g) :
    ∃ w', (Builtin.copy_ #[dT, sT] ty #[.slice (some ⟨g, 0, none⟩) n n, .slice (some ad) n sCap]).run P w = .ok (.int .i64 (n : Int)) w' ∧ w'.heap.size = w.heap.size ∧ w'.rowIs g t n (fun j => .int .u8 (Z j)) ∧ Below B w0 w' := by
  obtain ⟨cur, hg, hcn, hcf⟩ := hrow
  have hlen : ((List.range n).map (fun j => Value.int .u8 (Z j))).length = n := by simp
  have hr := run_copy_row (P := P) w dT sT ty elem g 0 n n ad n sCap cur t ((List.range n).map (fun j => Value.int .u8 (Z j))) hu hsz hg (by simp) ?_ (by simp; omega) ?_
  · rw [hlen] at hr
    refine ⟨_, hr, by simp [World.setRow], ⟨_, setRow_heap w g _ _ t _ hg, ?_, fun i hi => ?_⟩, below_setRow hb hBg _⟩
    · simp [hcn]
    · simp [hcn, hi]
  · intro j v hj
    rw [List.getElem?_map] at hj
    by_cases hjn : j < n
    · rw [List.getElem?_range hjn] at hj
      simp at hj
      rw [← hj]
      exact hsrc j hjn
    · rw [List.getElem?_eq_none (by simp; omega)] at hj
      simp at hj
  · intro v hv
    simp at hv
    obtain ⟨j, _, rfl⟩ := hv
    rfl

end Go.Proofs.Qxb6618274a
