import Derived.Test.Qxb6001745aBytes
import Derived.Deep.OwnRows
namespace Go.Proofs.Qxb6001745a
open Go.RowKit
set_option linter.unusedVariables false

theorem info33 : (Try.prog.info? 33).map (fun i => (i.zero, i.size, i.bytes)) = some (some (.agg #[.string ⟨#[]⟩, .string ⟨#[]⟩]), 2, 32) := by kernel_rfl

/-- The block that 'make([]Field, n)' lays. -/
def madeF (n : Nat) : Obj := .cells (madeCells #[.string ⟨#[]⟩, .string ⟨#[]⟩] (n * 2)) 33

theorem run_makeF (n : Nat) (hn : n ≤ 65536) (w : World) :
    (Instr.makeSlice 25 (.int .i64 (n : Int)) (.int .i64 (n : Int))).run Try.prog w = .ok (.slice (some ⟨w.heap.size, 0, none⟩) n n) (w.alloc (madeF n)) := by
  obtain ⟨i, hi, hzz⟩ := Option.map_eq_some_iff.1 info33
  simp only [Prod.mk.injEq] at hzz
  obtain ⟨hz, hs, hb⟩ := hzz
  have hr := run_make (P := Try.prog) w 25 33 i _ Try.underlying25 hi hz .i64 .i64 n n (by omega) (Int.le_refl _) (by rw [hb]; omega) (by omega)
  simp only [Int.toNat_natCast, hs] at hr
  exact hr

/-- Block g is a row of len fields; the first k bear the names N. -/
def Filled (wr : World) (g len k : Nat) (N : Nat → ByteArray) : Prop :=
  ∃ f : Nat → Value, wr.rowIs g 33 (len * 2) f ∧ (∀ j, j < len * 2 → ∃ s, f j = .string s) ∧ ∀ i, i < k → f (i * 2) = .string (N i)

theorem filled_made (w : World) (len : Nat) (N : Nat → ByteArray) : Filled (w.alloc (madeF len)) w.heap.size len 0 N := by
  refine ⟨fun _ => .string ⟨#[]⟩, ⟨_, Deep.blk_alloc_new _ _, size_madeCells _ _, fun i hi => ?_⟩, fun j _ => ⟨_, rfl⟩, fun i h => absurd h (Nat.not_lt_zero i)⟩
  have : i % 2 = 0 ∨ i % 2 = 1 := by omega
  rcases this with h | h <;> simp [madeCells, hi, h]

theorem Filled.cell {wr : World} {g len k : Nat} {N : Nat → ByteArray} (h : Filled wr g len k N) {j : Nat} (hj : j < len * 2) : ∃ s, wr.cell? ⟨g, j, none⟩ = some (.string s) := by
  obtain ⟨f, hr, ha, _⟩ := h
  obtain ⟨s, hs⟩ := ha j hj
  exact ⟨s, by rw [hr.cell hj, hs]⟩

theorem Filled.frozen {wr : World} {g len k : Nat} {N : Nat → ByteArray} (h : Filled wr g len k N) (j : Nat) : wr.frozen? ⟨g, j, none⟩ = false := by
  obtain ⟨f, hr, ha, _⟩ := h
  exact hr.frozen j

theorem Filled.lt {wr : World} {g len k : Nat} {N : Nat → ByteArray} (h : Filled wr g len k N) : g < wr.heap.size := by
  obtain ⟨f, hr, ha, _⟩ := h
  exact hr.lt

theorem Filled.step {wr : World} {g len k : Nat} {N : Nat → ByteArray} (h : Filled wr g len k N) (t : ByteArray) :
    Filled ((wr.setCell ⟨g, k * 2, none⟩ (.string (N k))).setCell ⟨g, k * 2 + 1, none⟩ (.string t)) g len (k + 1) N := by
  obtain ⟨f, hr, ha, hn⟩ := h
  refine ⟨_, (hr.set (k * 2) (.string (N k))).set (k * 2 + 1) (.string t), fun j hj => ?_, fun i hi => ?_⟩
  · show ∃ s, (if j = k * 2 + 1 then Value.string t else if j = k * 2 then .string (N k) else f j) = .string s
    split
    · exact ⟨_, rfl⟩
    · split
      · exact ⟨_, rfl⟩
      · exact ha j hj
  · show (if i * 2 = k * 2 + 1 then Value.string t else if i * 2 = k * 2 then .string (N k) else f (i * 2)) = .string (N i)
    rw [if_neg (by omega)]
    by_cases e : i = k
    · subst e; rw [if_pos rfl]
    · rw [if_neg (by omega)]; exact hn i (by omega)

/-- A filled block as a slice of fields, whole or cut. -/
theorem Filled.flds {wr : World} {g len : Nat} {N : Nat → ByteArray} (h : Filled wr g len len N) (hs : ∀ i, i < len → (N i).size ≤ maxLen) (d m : Nat) (hm : d + m ≤ len) :
    Flds wr (some ⟨g, d * 2, none⟩) m fun i => N (d + i) := by
  intro i hi
  obtain ⟨s, hs1⟩ := h.cell (j := d * 2 + i * 2 + 1) (by omega)
  obtain ⟨f, hr, ha, hn⟩ := h
  refine ⟨hs (d + i) (by omega), g, d * 2, rfl, ?_, s, hs1⟩
  have := hr.cell (i := (d + i) * 2) (by omega)
  rw [hn (d + i) (by omega)] at this
  rw [← this]
  congr 2
  omega

theorem Filled.flds0 {wr : World} {g len : Nat} {N : Nat → ByteArray} (h : Filled wr g len len N) (hs : ∀ i, i < len → (N i).size ≤ maxLen) :
    Flds wr (some ⟨g, 0, none⟩) len N := by
  have := h.flds hs 0 len (by omega)
  simpa using this

/-- It stays so while nothing below a later block turns. -/
theorem Filled.later {wr w' : World} {g len k : Nat} {N : Nat → ByteArray} (h : Filled wr g len k N) (hb : Below wr.heap.size wr w') : Filled w' g len k N := by
  have hlt := h.lt
  obtain ⟨f, hr, ha, hn⟩ := h
  exact ⟨f, hr.of_block (hb.block g hlt), ha, hn⟩

set_option maxHeartbeats 1000000 in
theorem buildFields_any (ao : Option Addr) (len cap : Nat) (N : Nat → ByteArray) (w : World) (hF : Strs w ao len N) (hlen : len ≤ 65536) :
    Calls Try.prog 13 #[.slice ao len cap, .slice none 0 0] w fun e w' => e = .returned (.slice (some ⟨w.heap.size, 0, none⟩) len len) ∧ Filled w' w.heap.size len len N ∧ Below w.heap.size w w' := by
  have hmk := run_makeF len hlen
  go_enter Try.func13, Try.ntmps13
  go_wp2
  go_loopw [6] (fun t wr => ∃ k : Nat, k ≤ len ∧ t = .int .i64 k ∧ Filled wr w.heap.size len k N ∧ Below w.heap.size w wr) (fun t _ => len - (intOf t).toNat)
  case atStart => exact ⟨0, Nat.zero_le _, rfl, filled_made w len N, (Below.refl _ _).alloc (Nat.le_refl _) _⟩
  case round =>
    obtain ⟨k, hk, rfl, hfill, hbel⟩ := hrel
    by_cases hlt : k < len
    · obtain ⟨hsz, b, off, rfl, hc0⟩ := hF k hlt
      have HF : Hid (Strs w (some ⟨b, off, none⟩) len N) := hF
      clear hF
      have g0 := cell_later hbel hc0
      obtain ⟨s0, c0⟩ := hfill.cell (j := k * 2) (by omega)
      obtain ⟨s1, c1⟩ := hfill.cell (j := k * 2 + 1) (by omega)
      have f0 := hfill.frozen (k * 2)
      have f1 := hfill.frozen (k * 2 + 1)
      have hlt' : (k : Int) < (len : Int) := by omega
      go_wp2
      go_roundw
      case rel => exact ⟨k + 1, by omega, by go_num, hfill.step _, (hbel.setCell (Nat.le_refl _) _).setCell (Nat.le_refl _) _⟩
      case measure => simp [intOf]; omega
    · have hge : len ≤ k := by omega
      go_wp2
      go_ret
      obtain rfl : k = len := by omega
      exact ⟨rfl, hfill, hbel⟩

end Go.Proofs.Qxb6001745a
