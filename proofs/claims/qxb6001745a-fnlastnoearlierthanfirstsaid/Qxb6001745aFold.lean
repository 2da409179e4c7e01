import Derived.Test.Qxb6001745aRows
import Derived.WalkKit
import Derived.WalkSpells
import Derived.WalkLawsBesides
import Derived.Deep.QuietTactic
import Derived.BigQuiet
namespace Go.Proofs.Qxb6001745a
open Go.RowKit

theorem ret_int {k : IntKind} {a b : Int} (h : a = b) : Ending.returned (.int k a) = .returned (.int k b) := by rw [h]
theorem ret_bool {a b : Bool} (h : a = b) : Ending.returned (.bool a) = .returned (.bool b) := by rw [h]

/-- A byte as a rule compares it. -/
def foldI (n c : Int) : Int := if n = 0 ∧ 65 ≤ c ∧ c ≤ 90 then c + 32 else c

theorem foldI_yes {n c : Int} (h : n = 0) (h1 : 65 ≤ c) (h2 : c ≤ 90) : foldI n c = c + 32 := by simp [foldI, h, h1, h2]
theorem foldI_rule {n c : Int} (h : ¬ n = 0) : foldI n c = c := by simp [foldI, h]
theorem foldI_low {n c : Int} (h : c < 65) : foldI n c = c := by unfold foldI; rw [if_neg]; omega
theorem foldI_high {n c : Int} (h : 90 < c) : foldI n c = c := by unfold foldI; rw [if_neg]; omega

set_option maxHeartbeats 400000 in
theorem fold_any (n c : Int) (w : World) (h0 : 0 ≤ c) (h1 : c ≤ 255) :
    Calls Try.prog 41 #[.int .u8 n, .int .u8 c] w fun e w' => e = .returned (.int .u8 (foldI n c)) ∧ w' = w := by
  by_cases hn : n = 0
  · subst hn
    by_cases ha : 65 ≤ c
    · by_cases hb : c ≤ 90
      · rw [foldI_yes rfl ha hb]
        go_enter Try.func41, Try.ntmps41
        go_wp2
        go_ret
        exact ⟨ret_int (by omega), rfl⟩
      · rw [foldI_high (by omega)]
        have hb' : 90 < c := by omega
        go_enter Try.func41, Try.ntmps41
        go_wp2
        go_ret
        exact ⟨rfl, rfl⟩
    · rw [foldI_low (by omega)]
      have ha' : c < 65 := by omega
      go_enter Try.func41, Try.ntmps41
      go_wp2
      go_ret
      exact ⟨rfl, rfl⟩
  · rw [foldI_rule hn]
    have hn' : (n == 0) = false := by simp [hn]
    clear hn
    go_enter Try.func41, Try.ntmps41
    go_wp2
    go_ret
    exact ⟨rfl, rfl⟩

/-- A text as a rule compares it. -/
def foldL (n : Int) (l : List UInt8) : List Int := l.map fun c => foldI n c.toNat

/-- Two names are the same by a rule. -/
def sameB (n : Int) (a b : ByteArray) : Bool := decide (foldL n a.data.toList = foldL n b.data.toList)

end Go.Proofs.Qxb6001745a
