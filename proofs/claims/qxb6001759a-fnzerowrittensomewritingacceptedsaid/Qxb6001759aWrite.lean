import Derived.Test.Qxb6001759aZero
import Derived.Deep.OwnRows
import Derived.Deep.RegionHeld3
namespace Go.Proofs.Qxb6001759a
open Go.RowKit
set_option linter.unusedVariables false

theorem info27 : (Try.prog.info? 27).map (fun i => (i.zero, i.size, i.bytes)) = some (some (.agg #[.int .i64 0, .int .i64 0, .bool false]), 3, 24) := by kernel_rfl

/-- The block that 'make([]writtenDigit, n)' lays. -/
def madeW (n : Nat) : Obj := .cells (madeCells #[.int .i64 0, .int .i64 0, .bool false] (n * 3)) 27

theorem run_makeW (n : Nat) (hn : n ≤ 32768) (w : World) :
    (Instr.makeSlice 24 (.int .i64 (n : Int)) (.int .i64 (n : Int))).run Try.prog w = .ok (.slice (some ⟨w.heap.size, 0, none⟩) n n) (w.alloc (madeW n)) := by
  obtain ⟨i, hi, hzz⟩ := Option.map_eq_some_iff.1 info27
  simp only [Prod.mk.injEq] at hzz
  obtain ⟨hz, hs, hb⟩ := hzz
  have hr := run_make (P := Try.prog) w 24 27 i _ Try.underlying24 hi hz .i64 .i64 n n (by omega) (Int.le_refl _) (by rw [hb]; omega) (by omega)
  simp only [Int.toNat_natCast, hs] at hr
  exact hr

/-- Block g is a row of len digits. -/
def Shaped (wr : World) (g len : Nat) : Prop :=
  ∃ f : Nat → Value, wr.rowIs g 27 (len * 3) f ∧ ∀ i, i < len → (∃ x, f (i * 3) = .int .i64 x) ∧ (∃ x, f (i * 3 + 1) = .int .i64 x) ∧ ∃ x, f (i * 3 + 2) = .bool x

theorem shaped_made (w : World) (len : Nat) : Shaped (w.alloc (madeW len)) w.heap.size len := by
  refine ⟨fun j => if j % 3 = 2 then .bool false else .int .i64 0, ⟨_, Deep.blk_alloc_new _ _, size_madeCells _ _, fun i hi => ?_⟩, fun i hi => ⟨⟨0, ?_⟩, ⟨0, ?_⟩, ⟨false, ?_⟩⟩⟩
  · have : i % 3 = 0 ∨ i % 3 = 1 ∨ i % 3 = 2 := by omega
    rcases this with h | h | h <;> simp [madeCells, hi, h]
  · show (if i * 3 % 3 = 2 then Value.bool false else .int .i64 0) = _
    rw [if_neg (by omega)]
  · show (if (i * 3 + 1) % 3 = 2 then Value.bool false else .int .i64 0) = _
    rw [if_neg (by omega)]
  · show (if (i * 3 + 2) % 3 = 2 then Value.bool false else .int .i64 0) = _
    rw [if_pos (by omega)]

theorem Shaped.lt {wr : World} {g len : Nat} (h : Shaped wr g len) : g < wr.heap.size := by
  obtain ⟨f, hr, _⟩ := h
  exact hr.lt
theorem Shaped.frozen {wr : World} {g len : Nat} (h : Shaped wr g len) (j : Nat) : wr.frozen? ⟨g, j, none⟩ = false := by
  obtain ⟨f, hr, _⟩ := h
  exact hr.frozen j
theorem Shaped.cells {wr : World} {g len : Nat} (h : Shaped wr g len) {i : Nat} (hi : i < len) :
    (∃ x, wr.cell? ⟨g, i * 3, none⟩ = some (.int .i64 x)) ∧ (∃ x, wr.cell? ⟨g, i * 3 + 1, none⟩ = some (.int .i64 x)) ∧ ∃ x, wr.cell? ⟨g, i * 3 + 2, none⟩ = some (.bool x) := by
  obtain ⟨f, hr, hs⟩ := h
  obtain ⟨⟨x, hx⟩, ⟨y, hy⟩, z, hz⟩ := hs i hi
  exact ⟨⟨x, by rw [hr.cell (by omega), hx]⟩, ⟨y, by rw [hr.cell (by omega), hy]⟩, z, by rw [hr.cell (by omega), hz]⟩

theorem Shaped.later {wr w' : World} {g len : Nat} (h : Shaped wr g len) (hb : Below wr.heap.size wr w') : Shaped w' g len := by
  have hlt := h.lt
  obtain ⟨f, hr, hs⟩ := h
  exact ⟨f, hr.of_block (hb.block g hlt), hs⟩

theorem Shaped.step {wr : World} {g len : Nat} (h : Shaped wr g len) (k : Nat) (d p : Int) (z : Bool) :
    Shaped (((wr.setCell ⟨g, k * 3, none⟩ (.int .i64 d)).setCell ⟨g, k * 3 + 1, none⟩ (.int .i64 p)).setCell ⟨g, k * 3 + 2, none⟩ (.bool z)) g len := by
  obtain ⟨f, hr, hs⟩ := h
  refine ⟨_, ((hr.set (k * 3) (.int .i64 d)).set (k * 3 + 1) (.int .i64 p)).set (k * 3 + 2) (.bool z), fun i hi => ?_⟩
  obtain ⟨h0, h1, h2⟩ := hs i hi
  refine ⟨?_, ?_, ?_⟩
  · show ∃ x, (if i * 3 = k * 3 + 2 then Value.bool z else if i * 3 = k * 3 + 1 then .int .i64 p else if i * 3 = k * 3 then .int .i64 d else f (i * 3)) = .int .i64 x
    rw [if_neg (by omega), if_neg (by omega)]
    split
    · exact ⟨_, rfl⟩
    · exact h0
  · show ∃ x, (if i * 3 + 1 = k * 3 + 2 then Value.bool z else if i * 3 + 1 = k * 3 + 1 then .int .i64 p else if i * 3 + 1 = k * 3 then .int .i64 d else f (i * 3 + 1)) = .int .i64 x
    rw [if_neg (by omega)]
    split
    · exact ⟨_, rfl⟩
    · rw [if_neg (by omega)]; exact h1
  · show ∃ x, (if i * 3 + 2 = k * 3 + 2 then Value.bool z else if i * 3 + 2 = k * 3 + 1 then .int .i64 p else if i * 3 + 2 = k * 3 then .int .i64 d else f (i * 3 + 2)) = .bool x
    split
    · exact ⟨_, rfl⟩
    · rw [if_neg (by omega), if_neg (by omega)]; exact h2

/-- A slice of digits that came in. -/
def Digs (w : World) (ao : Option Addr) (len : Nat) : Prop :=
  ∀ i, i < len → ∃ b off d p z, ao = some ⟨b, off, none⟩ ∧ w.cell? ⟨b, off + i * 3, none⟩ = some (.int .i64 d) ∧ w.cell? ⟨b, off + i * 3 + 1, none⟩ = some (.int .i64 p) ∧ w.cell? ⟨b, off + i * 3 + 2, none⟩ = some (.bool z)

set_option maxHeartbeats 2000000 in
theorem toWritten_any (ao : Option Addr) (len cap : Nat) (w : World) (hF : Digs w ao len) (hlen : len ≤ 32768) :
    Calls Try.prog 9 #[.slice ao len cap] w fun e w' => e = .returned (.slice (some ⟨w.heap.size, 0, none⟩) len len) ∧ Shaped w' w.heap.size len ∧ Below w.heap.size w w' := by
  have hmk := run_makeW len hlen
  go_enter Try.func9, Try.ntmps9
  go_wp2
  go_loopw [4] (fun t wr => ∃ k : Nat, k ≤ len ∧ t = .int .i64 k ∧ Shaped wr w.heap.size len ∧ Below w.heap.size w wr) (fun t _ => len - (intOf t).toNat)
  case atStart => exact ⟨0, Nat.zero_le _, rfl, shaped_made w len, (Below.refl _ _).alloc (Nat.le_refl _) _⟩
  case round =>
    obtain ⟨k, hk, rfl, hsh, hbel⟩ := hrel
    by_cases hlt : k < len
    · obtain ⟨b, off, d, p, z, rfl, hc0, hc1, hc2⟩ := hF k hlt
      have HF : Hid (Digs w (some ⟨b, off, none⟩) len) := hF
      clear hF
      have hbw := World.block_lt_of_cell? _ _ hc0
      have g0 := cell_later hbel hc0
      have g1 := cell_later hbel hc1
      have g2 := cell_later hbel hc2
      clear hc0 hc1 hc2
      have n0 := World.new_ne wr _ g0
      have hbw' : b < w.heap.size := hbw
      have q0 : w.heap.size ≠ b := by omega
      have hB := hsh.lt
      obtain ⟨⟨x0, c0⟩, ⟨x1, c1⟩, x2, c2⟩ := hsh.cells hlt
      have m0 := World.new_ne wr _ c0
      have f0 := hsh.frozen (k * 3)
      have f1 := hsh.frozen (k * 3 + 1)
      have f2 := hsh.frozen (k * 3 + 2)
      have hlt' : (k : Int) < (len : Int) := by omega
      have hk0 : (0 : Int) ≤ (k : Int) := by omega
      go_wp2
      go_region_held3 (fun w' => w'.cell? ⟨b, off + k * 3, none⟩ = some (.int .i64 d) ∧ w'.cell? ⟨b, off + k * 3 + 1, none⟩ = some (.int .i64 p) ∧ w'.cell? ⟨b, off + k * 3 + 2, none⟩ = some (.bool z)) (go_keep)
        (first | (go_at_call 10; refine (zzDigit_any d p z _).mono ?_; rintro e w' ⟨rfl, rfl⟩))
      have hs1 := hsh.step k d p z
      have hb1 := ((hbel.setCell (p := ⟨w.heap.size, k * 3, none⟩) (Nat.le_refl _) (.int .i64 d)).setCell (p := ⟨w.heap.size, k * 3 + 1, none⟩) (Nat.le_refl _) (.int .i64 p)).setCell (p := ⟨w.heap.size, k * 3 + 2, none⟩) (Nat.le_refl _) (.bool z)
      have hs2 := hs1.later ((Below.refl _ _).alloc (Nat.le_refl _) (digObj d p z))
      have hb2 := (hb1.alloc hb1.size (digObj d p z)).drew
      have Hend : Hid (_ ∧ _) := ⟨hs2, hb2⟩
      clear hs1 hb1 hs2 hb2
      go_wp2
      go_roundw
      case rel => exact ⟨k + 1, by omega, by go_num, Hend.out.1, Hend.out.2⟩
      case measure => simp [intOf]; omega
    · have hge : len ≤ k := by omega
      go_wp2
      go_ret
      exact ⟨rfl, hsh, hbel⟩

set_option maxHeartbeats 400000 in
theorem zzBytes12 (ao : Option Addr) (len cap : Nat) (d p : Int) (w : World) (hlen : len ≤ maxLen) :
    Calls Try.prog 12 #[.slice ao len cap, .int .i64 d, .int .i64 p] w fun e w' => e = .returned (.bool (decide (len ≤ 1048576))) ∧ w' = w := by
  unfold maxLen at hlen
  by_cases h : len ≤ 1048576
  · rw [decide_eq_true h]
    have h' : (len : Int) ≤ 1048576 := by omega
    go_enter Try.func12, Try.ntmps12
    go_wp2
    go_ret
    exact ⟨rfl, rfl⟩
  · rw [decide_eq_false h]
    have h' : (1048576 : Int) < (len : Int) := by omega
    clear h
    go_enter Try.func12, Try.ntmps12
    go_wp2
    go_ret
    exact ⟨rfl, rfl⟩

theorem zwB_some (e p : Int) : (zwB e p false || zwB e p true) = true := by
  unfold zwB; split
  · rfl
  · split <;> rfl

set_option maxHeartbeats 1000000 in
theorem walk4 (ao : Option Addr) (len cap : Nat) (d p : Int) (w : World) (hF : Digs w ao len) (hlen : len ≤ maxLen) :
    Calls Try.prog 4 #[.slice ao len cap, .int .i64 d, .int .i64 p] w fun e w' => e = .returned (.bool true) ∧ Below w.heap.size w w' := by
  have HF : Hid (Digs w ao len) := hF
  clear hF
  by_cases h1 : len ≤ 32768
  · have h1' : (len : Int) ≤ 32768 := by omega
    go_enter Try.func4, Try.ntmps4
    go_wp2_with fail
    refine (zzBytes12 ao len cap d p w hlen).mono ?_
    rintro e w1 ⟨rfl, hw⟩
    subst hw
    rw [decide_eq_true (show len ≤ 1048576 by omega)]
    go_wp2_with fail
    refine (toWritten_any ao len cap _ HF.out h1).mono ?_
    rintro e w2 ⟨rfl, hsh, hb2⟩
    go_wp2_with fail
    refine (zzDigit_any d p false _).mono ?_
    rintro e w3 ⟨rfl, hw⟩
    have hb23 : Below w2.heap.size w2 w3 := by rw [hw]; exact (Below.refl _ _).alloc (Nat.le_refl _) _
    have hb3 : Below w1.heap.size w1 w3 := hb2.trans (hb23.mono hb2.size)
    have hsh3 := hsh.later hb23
    clear hw hb2 hb23 hsh
    go_wp2_with fail
    by_cases h0 : len = 0
    · subst h0
      refine (zzZero_none _ 0 d p false _).mono ?_
      rintro e w4 ⟨rfl, hb4⟩
      have hb14 : Below w1.heap.size w1 w4 := hb3.trans (hb4.mono hb3.size)
      clear hb4 hb3 hsh3
      go_wp2_with fail
      refine (zzDigit_any d p true _).mono ?_
      rintro e w5 ⟨rfl, hw⟩
      have hb5 : Below w1.heap.size w1 w5 := by rw [hw]; exact hb14.alloc hb14.size _
      clear hw hb14
      go_wp2_with fail
      refine (zzZero_none _ 0 d p true _).mono ?_
      rintro e w6 ⟨rfl, hb6⟩
      have hb16 : Below w1.heap.size w1 w6 := hb5.trans (hb6.mono hb5.size)
      clear hb6 hb5
      go_wp2
      go_ret
      exact ⟨rfl, hb16⟩
    · obtain ⟨_, ⟨q, hq⟩, _⟩ := hsh3.cells (i := len - 1) (by omega)
      have hq0 : w3.cell? ⟨w1.heap.size, 0 + (len - 1) * 3 + 1, none⟩ = some (.int .i64 q) := by rw [Nat.zero_add]; exact hq
      have Hq : Hid (w3.cell? ⟨w1.heap.size, 0 + (len - 1) * 3 + 1, none⟩ = some (.int .i64 q)) := hq0
      clear hq hq0 hsh3
      have hpos : 0 < len := by omega
      clear h0
      refine (zzZero_some w1.heap.size 0 len len q d p false w3 hpos hlen Hq.out).mono ?_
      rintro e w4 ⟨rfl, hb4⟩
      have hb14 : Below w1.heap.size w1 w4 := hb3.trans (hb4.mono hb3.size)
      have hq4 := cell_later hb4 Hq.out
      clear hb4 hb3 Hq
      have Hall := zwB_some (wrap64 (wrap64 (q - p) - 1)) p
      have HE : Hid ((zwB (wrap64 (wrap64 (q - p) - 1)) p false || zwB (wrap64 (wrap64 (q - p) - 1)) p true) = true) := Hall
      clear Hall
      have H4 : Hid (w4.cell? ⟨w1.heap.size, 0 + (len - 1) * 3 + 1, none⟩ = some (.int .i64 q)) := hq4
      clear hq4
      go_wp2_with fail
      refine (zzDigit_any d p true _).mono ?_
      rintro e w5 ⟨rfl, hw⟩
      have hb45 : Below w4.heap.size w4 w5 := by rw [hw]; exact (Below.refl _ _).alloc (Nat.le_refl _) _
      have hb5 : Below w1.heap.size w1 w5 := hb14.trans (hb45.mono hb14.size)
      have H5 : Hid (w5.cell? ⟨w1.heap.size, 0 + (len - 1) * 3 + 1, none⟩ = some (.int .i64 q)) := cell_later hb45 H4.out
      clear hw hb14 hb45 H4
      go_wp2_with fail
      refine (zzZero_some w1.heap.size 0 len len q d p true w5 hpos hlen H5.out).mono ?_
      rintro e w6 ⟨rfl, hb6⟩
      have hb16 : Below w1.heap.size w1 w6 := hb5.trans (hb6.mono hb5.size)
      clear hb6 hb5 H5
      generalize zwB (wrap64 (wrap64 (q - p) - 1)) p false = x at *
      generalize zwB (wrap64 (wrap64 (q - p) - 1)) p true = y at *
      cases x
      · obtain rfl : y = true := HE.out
        go_wp2
        go_ret
        exact ⟨rfl, hb16⟩
      · go_wp2
        go_ret
        exact ⟨rfl, hb16⟩
  · have h1' : (32768 : Int) < (len : Int) := by omega
    go_enter Try.func4, Try.ntmps4
    go_wp2_with fail
    refine (zzBytes12 ao len cap d p w hlen).mono ?_
    rintro e w1 ⟨rfl, hw⟩
    subst hw
    by_cases h2 : len ≤ 1048576
    · rw [decide_eq_true h2]
      go_wp2
      go_ret
      exact ⟨rfl, Below.refl _ _⟩
    · rw [decide_eq_false h2]
      go_wp2
      go_ret
      exact ⟨rfl, Below.refl _ _⟩

end Go.Proofs.Qxb6001759a
