import Derived.Test.Qxb6600680aRows
import Derived.WalkKit
import Derived.WalkSpells
import Derived.WalkLawsBesides
namespace Go.Proofs.Qxb6600680a
open Go.RowKit
set_option linter.unusedVariables false

theorem ret_bool {a b : Bool} (h : a = b) : Ending.returned (.bool a) = .returned (.bool b) := by rw [h]

/-- What hasDot says: yes, or there is none. -/
def DotPost (s : ByteArray) (w : World) (e : Ending) (w' : World) : Prop :=
  w' = w ∧ (e = .returned (.bool true) ∨ e = .returned (.bool false) ∧ ∀ i, (h : i < s.size) → ((s[i].toNat : Int) == 46) = false)

set_option maxHeartbeats 400000 in
theorem hasDot_any (s : ByteArray) (w : World) (hs : s.size ≤ maxLen) : Calls Try.prog 8 #[.string s] w (DotPost s w) := by
  unfold maxLen at hs
  go_enter Try.func8, Try.ntmps8
  go_wp2
  go_loop [3] (fun t => ∃ k : Nat, k ≤ s.size ∧ t = .int .i64 k ∧ Hid (∀ i, i < k → (h : i < s.size) → ((s[i].toNat : Int) == 46) = false)) (fun t => s.size - (intOf t).toNat)
  case atStart => exact ⟨0, Nat.zero_le _, rfl, fun j h => absurd h (Nat.not_lt_zero j)⟩
  case round =>
    obtain ⟨k, hk, rfl, hall⟩ := hrel
    by_cases hlt : k < s.size
    · have hlt' : (k : Int) < (s.size : Int) := by omega
      go_wp2
      · go_ret
        exact ⟨rfl, .inl rfl⟩
      · go_round
        case rel =>
          have hq : ((s[k].toNat : Int) == 46) = false := by assumption
          refine ⟨k + 1, by omega, by go_num, ?_⟩
          intro j hj h1
          by_cases hjk : j < k
          · exact hall.out j hjk h1
          · obtain rfl : j = k := by omega
            exact hq
        case measure => simp [intOf]; omega
    · have hge : s.size ≤ k := by omega
      go_wp2
      go_ret
      exact ⟨rfl, .inr ⟨rfl, fun i h => hall.out i (by omega) h⟩⟩

/-- A path, a dot, a key. -/
def joinB (p k : ByteArray) : ByteArray := p ++ ⟨#[46]⟩ ++ k

set_option maxHeartbeats 400000 in
theorem join_any (p k : ByteArray) (w : World) (h0 : 0 < p.size) (hp : p.size ≤ 1048576) (hk : k.size ≤ 1048576) :
    Calls Try.prog 6 #[.string p, .string k] w fun e w' => e = .returned (.string (joinB p k)) ∧ w' = w := by
  have hne : p.toList.isEmpty = false := by
    rw [ByteArray.toList_eq, List.isEmpty_eq_false_iff_exists_mem]
    have : 0 < p.data.toList.length := by simpa using h0
    exact ⟨_, List.getElem_mem this⟩
  go_enter Try.func6, Try.ntmps6
  go_wp2
  go_ret
  exact ⟨rfl, rfl⟩

/-- What the test on the total length says. -/
def BytesPost (p k : ByteArray) (w : World) (e : Ending) (w' : World) : Prop :=
  w' = w ∧ (e = .returned (.bool false) ∨ e = .returned (.bool true) ∧ p.size ≤ 1048576 ∧ k.size ≤ 1048576)

set_option maxHeartbeats 400000 in
theorem zzBytes7 (p k : ByteArray) (w : World) (hp : p.size ≤ maxLen) (hk : k.size ≤ maxLen) : Calls Try.prog 7 #[.string p, .string k] w (BytesPost p k w) := by
  unfold maxLen at hp hk
  by_cases h1 : p.size ≤ 1048576
  · have h1' : (p.size : Int) ≤ 1048576 := by omega
    by_cases h2 : k.size ≤ 1048576
    · have h2' : (k.size : Int) ≤ 1048576 := by omega
      by_cases h3 : (p.size : Int) + k.size ≤ 1048576
      · go_enter Try.func7, Try.ntmps7
        go_wp2
        go_ret
        exact ⟨rfl, .inr ⟨rfl, h1, h2⟩⟩
      · have h3' : 1048576 < (p.size : Int) + k.size := by omega
        go_enter Try.func7, Try.ntmps7
        go_wp2
        go_ret
        exact ⟨rfl, .inl rfl⟩
    · have h2' : 1048576 < (k.size : Int) := by omega
      go_enter Try.func7, Try.ntmps7
      go_wp2
      go_ret
      exact ⟨rfl, .inl rfl⟩
  · have h1' : 1048576 < (p.size : Int) := by omega
    go_enter Try.func7, Try.ntmps7
    go_wp2
    go_ret
    exact ⟨rfl, .inl rfl⟩

end Go.Proofs.Qxb6600680a
