import Derived.Test.Qxb6618274aMain
namespace Go.Proofs.Qxb6618274a
open Go.RowKit Go.Deep

theorem sz5 : (Try.prog.info? 5).map (·.size) = some 1 := by kernel_rfl

theorem Cells.later {w w' : World} {a : Option Addr} {L : List Int} (h : Cells w a L) (hb : Below w.heap.size w w') : Cells w' a L := fun i hi => by
  obtain ⟨b, ha, hbs, hc⟩ := h i hi
  exact ⟨b, ha, Nat.lt_of_lt_of_le hbs hb.size, (hb.cell (p := ⟨b, i, none⟩) hbs).trans hc⟩

set_option maxHeartbeats 1000000 in
set_option maxRecDepth 100000 in
theorem law_main (l c n cap b off p : Nat) (op : Bool) (Z : Nat → Int) (v : Int) (w : World) (hn : n ≤ 65536) (hl : l ≤ n) (hc : c ≤ n) (hp : p < n) (hpl : p + 1 ≠ l) (hpc : p + 1 ≠ c)
    (hZ : ∀ i, i < n → w.cell? ⟨b, off + i, none⟩ = some (.int .u8 (Z i))) :
    Calls Try.prog 3 #[.int .i64 (l : Int), .int .i64 (c : Int), .bool op, .slice (some ⟨b, off, none⟩) n cap, .int .i64 (p : Int), .int .u8 v] w fun e w' => e = .returned (.bool true) ∧ Below w.heap.size w w' := by
  have hbs : b < w.heap.size := World.block_lt_of_cell? _ _ (hZ p hp)
  have hmk := run_make_row' (P := Try.prog) 22 5 (.int .u8 0) 1 Try.underlying22 info5 rfl .i64 .i64 n (by omega) (by omega)
  have q1 : ((p : Int) == (l : Int) - 1) = false := by simp; omega
  have q2 : ((p : Int) == (c : Int) - 1) = false := by simp; omega
  obtain ⟨w1, hcp, hs1, hr1, hb1⟩ := run_copy_whole (P := Try.prog) (w.alloc (.cells (madeCells #[.int .u8 0] n) 5)) 22 22 3 5 Try.underlying22 sz5 w.heap.size n ⟨b, off, none⟩ cap 5 _ (World.rowIs_made w _ n 5) Z
    (fun j hj => by rw [Go.WideShapes.add_plain]; exact old_cell hbs (hZ j hj)) w.heap.size w ((Below.refl _ _).alloc (Nat.le_refl _) _) (Nat.le_refl _)
  have hs1' : w1.heap.size = w.heap.size + 1 := by rw [hs1]; simp
  have hst := Copied.start 5 n Z hb1 (by omega)
  rw [hs1'] at hst
  clear hZ hs1
  go_enter Try.func3, Try.ntmps3
  go_wp2_with (go_at_call 4; refine (bytes_ok _ _ _ _ _ _ _ _ _ hn).mono ?_; rintro e w' ⟨rfl, rfl⟩)
  clear hmk hcp
  go_loopw [15] (fun i wr => ∃ k : Nat, k ≤ n ∧ i = .int .i64 k ∧ Copied w.heap.size w wr (w.heap.size + 1) (w.heap.size + 1 + 1) 5 n k Z ∧ wr.rowIs w.heap.size 5 n (fun j => .int .u8 (Z j))) (fun i _ => n - (intOf i).toNat)
  case atStart => exact ⟨0, Nat.zero_le _, rfl, hst, hr1.alloc _⟩
  case round =>
    obtain ⟨k, hk, rfl, hI, hrow⟩ := hrel
    clear hst hr1 hb1 hs1'
    by_cases hlt : k < n
    · have g1 : wr.cell? ⟨w.heap.size, k, none⟩ = some (.int .u8 (Z k)) := hrow.cell hlt
      have g2 : wr.cell? ⟨w.heap.size + 1, k, none⟩ = some (.int .u8 0) := by simpa using hI.row.cell hlt
      have g3 : wr.frozen? ⟨w.heap.size + 1, k, none⟩ = false := hI.row.frozen k
      have hI' := hI.step (by omega)
      have hrow' := hrow.setOther (a := ⟨w.heap.size + 1, k, none⟩) (by simp) (.int .u8 (Z k))
      clear hI hrow
      go_wp2
      go_roundw
      case rel => exact ⟨k + 1, by omega, by go_num, hI', hrow'⟩
      case measure => simp [intOf]; omega
    · obtain rfl : k = n := by omega
      have g2 : wr.cell? ⟨w.heap.size + 1, p, none⟩ = some (.int .u8 (Z p)) := by simpa [hp] using hI.row.cell hp
      have g3 : wr.frozen? ⟨w.heap.size + 1, p, none⟩ = false := hI.row.frozen p
      have hpi : (p : Int) < (k : Int) := by omega
      have hsz := hI.size
      have hszs : (wr.setCell ⟨w.heap.size + 1, p, none⟩ (.int .u8 v)).heap.size = w.heap.size + 1 + 1 := by simp [hsz]
      have hbel : Below w.heap.size w (wr.setCell ⟨w.heap.size + 1, p, none⟩ (.int .u8 v)) := hI.below.setCell (by simp) _
      have HA : Hid (∀ i, i < k → (wr.setCell ⟨w.heap.size + 1, p, none⟩ (.int .u8 v)).cell? ⟨w.heap.size, i, none⟩ = some (.int .u8 (Z i))) :=
        fun i hi => (hrow.setOther (a := ⟨w.heap.size + 1, p, none⟩) (by simp) (.int .u8 v)).cell hi
      have HB : Hid (∀ i, i < k → (wr.setCell ⟨w.heap.size + 1, p, none⟩ (.int .u8 v)).cell? ⟨w.heap.size + 1, i, none⟩ = some (.int .u8 ((fun j => if j = p then v else Z j) i))) :=
        fun i hi => by
          rw [(hI.row.set p (.int .u8 v)).cell hi]
          by_cases e : i = p <;> simp [e, hi]
      have hsame : Hid (heldL l c (fun j => if j = p then v else Z j) = heldL l c Z) := held_same (p := p) (fun j hj => if_neg hj) hpl hpc
      clear hI hrow
      go_wp2_with fail
      refine (zzheld_any l c k w.heap.size op Z _ hn hl hc (by simp [hsz]; omega) HA.out).mono ?_
      rintro e w2 ⟨a1, cap1, rfl, hb2, C1⟩
      have HK2 : Hid (∀ i, i < k → w2.cell? ⟨w.heap.size, i, none⟩ = some (.int .u8 (Z i))) := fun i hi => (hb2.cell (p := ⟨w.heap.size, i, none⟩) (by simp [hsz]; omega)).trans (HA.out i hi)
      have HB2 : Hid (∀ i, i < k → w2.cell? ⟨w.heap.size + 1, i, none⟩ = some (.int .u8 ((fun j => if j = p then v else Z j) i))) := fun i hi => (hb2.cell (p := ⟨w.heap.size + 1, i, none⟩) (by simp [hsz])).trans (HB.out i hi)
      have hsz2 : w.heap.size + 1 < w2.heap.size := by have := hb2.size; simp [hsz] at this; omega
      have hbel2 : Below w.heap.size w w2 := hbel.trans (hb2.mono (by simp [hsz]; omega))
      clear HA HB hb2 hbel g2 g3 hszs hsz
      go_wp2_with fail
      have H2 := zzheld_any l c k (w.heap.size + 1) op (fun j => if j = p then v else Z j) w2 hn hl hc hsz2 HB2.out
      rw [hsame.out] at H2
      refine H2.mono ?_
      clear H2
      rintro e w3 ⟨a2, cap2, rfl, hb3, C2⟩
      have HK : Hid (∀ i, i < k → w3.cell? ⟨w.heap.size, i, none⟩ = some (.int .u8 (Z i))) := fun i hi => (hb3.cell (p := ⟨w.heap.size, i, none⟩) (by show w.heap.size < _; omega)).trans (HK2.out i hi)
      have C1' : Hid (Cells w3 a1 (heldL l c Z)) := C1.later hb3
      have C2' : Hid (Cells w3 a2 (heldL l c Z)) := C2
      have hbel3 : Below w.heap.size w w3 := hbel2.trans (hb3.mono (by omega))
      have hlen := held_len l c Z
      clear HK2 HB2 C1 C2 hb3 hbel2 hsz2 hsame
      go_wp2
      go_loopw [18] (fun i wr => ∃ k' : Nat, k' ≤ (heldL l c Z).length ∧ i = .int .i64 k' ∧ wr.Alike w3 ∧ wr.tape = w3.tape) (fun i _ => (heldL l c Z).length - (intOf i).toNat)
      case atStart => exact ⟨0, Nat.zero_le _, rfl, World.Alike.refl _, rfl⟩
      case round =>
        obtain ⟨m, hm, rfl, hal, hta⟩ := hrel
        have HT : Hid (wr.tape = w3.tape) := hta
        clear hta
        by_cases hlt' : m < (heldL l c Z).length
        · obtain ⟨b1, rfl, _, e1⟩ := C1'.out m hlt'
          obtain ⟨b2, rfl, _, e2⟩ := C2'.out m hlt'
          have e1' : wr.cell? ⟨b1, m, none⟩ = some (.int .i64 ((heldL l c Z).getD m 0)) := (hal.cell _).trans e1
          have e2' : wr.cell? ⟨b2, m, none⟩ = some (.int .i64 ((heldL l c Z).getD m 0)) := (hal.cell _).trans e2
          clear e1 e2
          have hltI : (m : Int) < ((heldL l c Z).length : Int) := by omega
          go_wp2
          go_quiet (fail)
          go_wp2
          go_roundw
          case rel => exact ⟨m + 1, by omega, by go_num, hal, HT.out⟩
          case measure => simp [intOf]; omega
        · have HKr : Hid (∀ i, i < k → wr.cell? ⟨w.heap.size, i, none⟩ = some (.int .u8 (Z i))) := fun i hi => (hal.cell _).trans (HK.out i hi)
          have C1r : Hid (∀ i, i < (heldL l c Z).length → ∃ b, a1 = some ⟨b, 0, none⟩ ∧ wr.cell? ⟨b, i, none⟩ = some (.int .i64 ((heldL l c Z).getD i 0))) := fun i hi => by
            obtain ⟨b1, h1, _, h2⟩ := C1'.out i hi
            exact ⟨b1, h1, (hal.cell _).trans h2⟩
          have hbr : Below w.heap.size w wr := hbel3.trans ⟨hal.2.1, HT.out, hal.2.2, Nat.le_of_eq hal.size.symm, fun q _ => by rw [hal.1]⟩
          clear hal hbel3 HK C1' C2'
          go_wp2_with fail
          refine (dropped_any l k w.heap.size Z _ (held_drop l c Z) _ hn hl HKr.out).mono ?_
          rintro e w4 ⟨rfl, rfl⟩
          go_wp2
          go_loop [19] (fun i => ∃ q : Nat, q ≤ (heldL l c Z).length ∧ i = .int .i64 q) (fun i => (heldL l c Z).length - (intOf i).toNat)
          case atStart => exact ⟨0, Nat.zero_le _, rfl⟩
          case round =>
            obtain ⟨q, hq, rfl⟩ := hrel
            by_cases hlq : q < (heldL l c Z).length
            · have hltI : (q : Int) < ((heldL l c Z).length : Int) := by omega
              obtain ⟨b1, rfl, e1⟩ := C1r.out q hlq
              by_cases hq0 : q = 0
              · have h0 := held_0 (l := l) (c := c) (Z := Z) (by omega)
                have e2 : wr.cell? ⟨b1, q, none⟩ = some (.int .i64 (l : Int)) := by rw [e1, hq0, h0.1]
                have H0 : Hid (dropB l Z = true) := h0.2
                have t0 : ((q : Int) == 0) = true := by simpa using hq0
                have t1 : ((q : Int) == 1) = false := by simp; omega
                clear h0 hq0 e1
                go_wp2_with (go_at_call 6; refine (dropped_any l k w.heap.size Z true H0.out _ hn hl HKr.out).mono ?_; rintro e w5 ⟨rfl, rfl⟩)
                go_round
                case rel => exact ⟨q + 1, by omega, by go_num⟩
                case measure => simp [intOf]; omega
              · have h0 := held_1 (l := l) (c := c) (Z := Z) (by omega)
                have hq1 : q = 1 := by omega
                have e2 : wr.cell? ⟨b1, q, none⟩ = some (.int .i64 (c : Int)) := by rw [e1, hq1, h0.1]
                have H0 : Hid (dropB c Z = true) := h0.2
                have t0 : ((q : Int) == 0) = false := by simpa using hq0
                have t1 : ((q : Int) == 1) = true := by simp; omega
                clear h0 hq0 hq1 e1
                go_wp2_with (go_at_call 6; refine (dropped_any c k w.heap.size Z true H0.out _ hn hc HKr.out).mono ?_; rintro e w5 ⟨rfl, rfl⟩)
                go_round
                case rel => exact ⟨q + 1, by omega, by go_num⟩
                case measure => simp [intOf]; omega
            · go_wp2
              go_ret
              exact ⟨rfl, hbr⟩

end Go.Proofs.Qxb6618274a
