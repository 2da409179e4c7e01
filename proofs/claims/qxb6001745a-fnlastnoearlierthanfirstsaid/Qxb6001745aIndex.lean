import Derived.Test.Qxb6001745aSame
namespace Go.Proofs.Qxb6001745a
open Go.RowKit
set_option linter.unusedVariables false

/-- A slice of fields in memory: the names that its fields hold. -/
def Flds (w : World) (ao : Option Addr) (len : Nat) (N : Nat → ByteArray) : Prop :=
  ∀ i, i < len → (N i).size ≤ maxLen ∧ ∃ b off, ao = some ⟨b, off, none⟩ ∧ w.cell? ⟨b, off + i * 2, none⟩ = some (.string (N i)) ∧ ∃ v, w.cell? ⟨b, off + i * 2 + 1, none⟩ = some (.string v)

theorem Flds.later {w w' : World} {ao : Option Addr} {len : Nat} {N : Nat → ByteArray} (h : Flds w ao len N) (hb : Below w.heap.size w w') : Flds w' ao len N := by
  intro i hi
  obtain ⟨hs, b, off, ha, c0, v, c1⟩ := h i hi
  exact ⟨hs, b, off, ha, cell_later hb c0, v, cell_later hb c1⟩

theorem below_drewN {B : Nat} {a w : World} (h : Below B a w) (n : Nat) : Below B a (w.drewN n) := ⟨h.os, h.tape, h.output, h.size, h.block⟩

/-- The first index from i on, among m, at which p says yes; or -1. -/
def idxF (p : Nat → Bool) : Nat → Nat → Int
  | _, 0 => -1
  | i, m + 1 => if p i = true then (i : Int) else idxF p (i + 1) m

theorem idxF_none (p : Nat → Bool) : ∀ (m i : Nat), (∀ j, i ≤ j → j < i + m → p j = false) → idxF p i m = -1
  | 0, _, _ => rfl
  | m + 1, i, h => by
    rw [idxF, h i (Nat.le_refl _) (by omega), if_neg (by simp)]
    exact idxF_none p m (i + 1) fun j h1 h2 => h j (by omega) (by omega)

theorem idxF_hit (p : Nat → Bool) (k : Nat) (hk : p k = true) : ∀ (m i : Nat), i ≤ k → k < i + m → (∀ j, i ≤ j → j < k → p j = false) → idxF p i m = k
  | 0, i, h1, h2, _ => by omega
  | m + 1, i, h1, h2, h => by
    rw [idxF]
    by_cases e : i = k
    · subst e; rw [if_pos hk]
    · rw [h i (Nat.le_refl _) (by omega), if_neg (by simp)]
      exact idxF_hit p k hk m (i + 1) (by omega) (by omega) fun j h3 h4 => h j (by omega) h4

set_option maxHeartbeats 1000000 in
theorem indexOf_any (n : Int) (ao : Option Addr) (len cap : Nat) (N : Nat → ByteArray) (name : ByteArray) (w : World) (hF : Flds w ao len N) (hlen : len ≤ maxLen) (hn : name.size ≤ maxLen) :
    Calls Try.prog 31 #[.int .u8 n, .slice ao len cap, .string name] w fun e w' => e = .returned (.int .i64 (idxF (fun i => sameB n (N i) name) 0 len)) ∧ Below w.heap.size w w' := by
  unfold maxLen at hlen
  go_enter Try.func31, Try.ntmps31
  go_wp2
  go_loopw [11] (fun t wr => ∃ k : Nat, k ≤ len ∧ t = .int .i64 k ∧ Hid (∀ j, j < k → sameB n (N j) name = false) ∧ Below w.heap.size w wr) (fun t _ => len - (intOf t).toNat)
  case atStart => exact ⟨0, Nat.zero_le _, rfl, fun j h => absurd h (Nat.not_lt_zero j), Below.refl _ _⟩
  case round =>
    obtain ⟨k, hk, rfl, hall, hbel⟩ := hrel
    by_cases hlt : k < len
    · obtain ⟨hsz, b, off, rfl, hc0, v, hc1⟩ := hF k hlt
      have HF : Hid (Flds w (some ⟨b, off, none⟩) len N) := hF
      clear hF
      have g0 := cell_later hbel hc0
      have g1 := cell_later hbel hc1
      have hbw := World.block_lt_of_cell? _ _ g0
      clear hc0 hc1
      have hlt' : (k : Int) < (len : Int) := by omega
      have hws := hbel.size
      go_wp2_with fail
      refine (same_any n (N k) name _ hsz hn).mono ?_
      rintro e w1 ⟨rfl, m, rfl⟩
      cases hsame : sameB n (N k) name
      · go_wp2
        go_roundw
        case rel =>
          refine ⟨k + 1, by omega, by go_num, ?_, below_drewN (hbel.alloc hws _) m⟩
          intro j hj
          by_cases hjk : j < k
          · exact hall.out j hjk
          · obtain rfl : j = k := by omega
            exact hsame
        case measure => simp [intOf]; omega
      · go_wp2
        go_ret
        exact ⟨ret_int (idxF_hit _ k hsame len 0 (Nat.zero_le _) (by omega) fun j _ hj => hall.out j hj).symm, below_drewN (hbel.alloc hws _) m⟩
    · have hge : len ≤ k := by omega
      go_wp2
      go_ret
      exact ⟨ret_int (idxF_none _ len 0 fun j _ hj => hall.out j (by omega)).symm, hbel⟩

set_option maxHeartbeats 400000 in
theorem zzIndexOf_any (n : Int) (ao : Option Addr) (len cap : Nat) (N : Nat → ByteArray) (name : ByteArray) (w : World) (hF : Flds w ao len N) (hlen : len ≤ maxLen) (hn : name.size ≤ maxLen) :
    Calls Try.prog 14 #[.int .u8 n, .slice ao len cap, .string name] w fun e w' => e = .returned (.int .i64 (idxF (fun i => sameB n (N i) name) 0 len)) ∧ Below w.heap.size w w' := by
  have HF : Hid (Flds w ao len N) := hF
  clear hF
  go_enter Try.func14, Try.ntmps14
  go_wp2_with (go_at_call 31; refine (indexOf_any n ao len cap N name w HF.out hlen hn).mono ?_; rintro e w1 ⟨rfl, hb⟩)
  go_ret
  exact ⟨rfl, hb⟩

end Go.Proofs.Qxb6001745a
