import Derived.Test.Qxb6001759aPow
import Derived.Deep.QuietTactic
import Derived.BigQuiet
namespace Go.Proofs.Qxb6001759a
open Go.RowKit
set_option linter.unusedVariables false

/-- What a digit is in memory. -/
def digObj (d p : Int) (z : Bool) : Obj := .cells #[.int .i64 d, .int .i64 p, .bool z] 27

set_option maxHeartbeats 400000 in
theorem zzDigit_any (d p : Int) (z : Bool) (w : World) :
    Calls Try.prog 10 #[.int .i64 d, .int .i64 p, .bool z] w fun e w' => e = .returned (.agg #[.int .i64 d, .int .i64 p, .bool z]) ∧ w' = w.alloc (digObj d p z) := by
  go_enter Try.func10, Try.ntmps10
  go_wp2
  exact bodyPost_ret (v := .agg #[.int .i64 d, .int .i64 p, .bool z]) (by simp [results, Try.results10, go_sem]) rfl ⟨rfl, rfl⟩

/-- Whether the zero is rightly written: 'e' the count of empty places as the text reckons it. -/
def zwB (e p : Int) (z : Bool) : Bool := if e = 0 then !z else if p.tmod 4 = 3 ∨ p = -1 then true else z

theorem zwB_zero {e p : Int} {z : Bool} (h : (e == 0) = true) : (!z) = zwB e p z := by
  rw [beq_iff_eq] at h; simp [zwB, h]
theorem zwB_three {e p : Int} {z : Bool} (h : (e == 0) = false) (h3 : p.tmod 4 = 3) : true = zwB e p z := by
  rw [beq_eq_false_iff_ne] at h; simp [zwB, h, h3]
theorem zwB_or {e p : Int} {z : Bool} (h : (e == 0) = false) (h3 : (p.tmod 4 == 3) = true ∨ (p == -1) = true) : true = zwB e p z := by
  rw [beq_eq_false_iff_ne] at h; rw [beq_iff_eq, beq_iff_eq] at h3; simp [zwB, h, h3]
theorem zwB_no {e p : Int} {z : Bool} (h : (e == 0) = false) (h3 : (p.tmod 4 == 3) = false ∧ (p == -1) = false) : z = zwB e p z := by
  rw [beq_eq_false_iff_ne] at h; rw [beq_eq_false_iff_ne, beq_eq_false_iff_ne] at h3; simp [zwB, h, h3]

theorem below_drewN {B : Nat} {a w : World} (h : Below B a w) (n : Nat) : Below B a (w.drewN n) := ⟨h.os, h.tape, h.output, h.size, h.block⟩

set_option maxHeartbeats 400000 in
theorem zeroWritten_none (ao : Option Addr) (cap : Nat) (d p : Int) (z : Bool) (w : World) :
    Calls Try.prog 14 #[.slice ao 0 cap, .agg #[.int .i64 d, .int .i64 p, .bool z]] w fun e w' => e = .returned (.bool (!z)) ∧ Below w.heap.size w w' := by
  go_enter Try.func14, Try.ntmps14
  go_wp2
  go_ret
  exact ⟨rfl, (Below.refl _ _).alloc (Nat.le_refl _) _⟩

set_option maxHeartbeats 400000 in
theorem zeroWritten_some (b off n cap : Nat) (q d p : Int) (z : Bool) (w : World) (h0 : 0 < n) (hn : n ≤ maxLen) (hc : w.cell? ⟨b, off + (n - 1) * 3 + 1, none⟩ = some (.int .i64 q)) :
    Calls Try.prog 14 #[.slice (some ⟨b, off, none⟩) n cap, .agg #[.int .i64 d, .int .i64 p, .bool z]] w fun e w' => e = .returned (.bool (zwB (wrap64 (wrap64 (q - p) - 1)) p z)) ∧ Below w.heap.size w w' := by
  unfold maxLen at hn
  have hbw := World.block_lt_of_cell? _ _ hc
  have hne : ((n : Int) == 0) = false := by rw [beq_eq_false_iff_ne]; omega
  have h0' : (0 : Int) < (n : Int) := by omega
  go_enter Try.func14, Try.ntmps14
  go_wp2
  go_quiet (fail)
  go_wp2
  · go_ret
    exact ⟨ret_bool (zwB_zero ‹_›), below_drewN ((Below.refl _ _).alloc (Nat.le_refl _) _) _⟩
  · go_ret
    exact ⟨ret_bool (zwB_three ‹_› ‹_›), below_drewN ((Below.refl _ _).alloc (Nat.le_refl _) _) _⟩
  · go_ret
    exact ⟨ret_bool (zwB_or ‹_› ‹_›), below_drewN ((Below.refl _ _).alloc (Nat.le_refl _) _) _⟩
  · go_ret
    exact ⟨ret_bool (zwB_no ‹_› ‹_›), below_drewN ((Below.refl _ _).alloc (Nat.le_refl _) _) _⟩

set_option maxHeartbeats 400000 in
theorem zzZero_none (ao : Option Addr) (cap : Nat) (d p : Int) (z : Bool) (w : World) :
    Calls Try.prog 11 #[.slice ao 0 cap, .agg #[.int .i64 d, .int .i64 p, .bool z]] w fun e w' => e = .returned (.bool (!z)) ∧ Below w.heap.size w w' := by
  go_enter Try.func11, Try.ntmps11
  go_wp2_with fail
  refine (zeroWritten_none ao cap d p z _).mono ?_
  rintro e w1 ⟨rfl, hb⟩
  have hb1 : Below w.heap.size w w1 := ((Below.refl _ _).alloc (Nat.le_refl _) _).trans (hb.mono (by simp))
  clear hb
  go_wp2
  go_ret
  exact ⟨rfl, hb1⟩

set_option maxHeartbeats 400000 in
theorem zzZero_some (b off n cap : Nat) (q d p : Int) (z : Bool) (w : World) (h0 : 0 < n) (hn : n ≤ maxLen) (hc : w.cell? ⟨b, off + (n - 1) * 3 + 1, none⟩ = some (.int .i64 q)) :
    Calls Try.prog 11 #[.slice (some ⟨b, off, none⟩) n cap, .agg #[.int .i64 d, .int .i64 p, .bool z]] w fun e w' => e = .returned (.bool (zwB (wrap64 (wrap64 (q - p) - 1)) p z)) ∧ Below w.heap.size w w' := by
  go_enter Try.func11, Try.ntmps11
  go_wp2_with fail
  refine (zeroWritten_some b off n cap q d p z _ h0 hn (cell_later ((Below.refl _ _).alloc (Nat.le_refl _) _) hc)).mono ?_
  rintro e w1 ⟨rfl, hb⟩
  have hb1 : Below w.heap.size w w1 := ((Below.refl _ _).alloc (Nat.le_refl _) _).trans (hb.mono (by simp))
  clear hb
  go_wp2
  go_ret
  exact ⟨rfl, hb1⟩

end Go.Proofs.Qxb6001759a
