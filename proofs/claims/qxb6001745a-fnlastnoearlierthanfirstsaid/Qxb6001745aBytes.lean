import Derived.Test.Qxb6001745aIndex
namespace Go.Proofs.Qxb6001745a
open Go.RowKit
set_option linter.unusedVariables false

/-- A slice of strings in memory. -/
def Strs (w : World) (ao : Option Addr) (len : Nat) (N : Nat → ByteArray) : Prop :=
  ∀ i, i < len → (N i).size ≤ maxLen ∧ ∃ b off, ao = some ⟨b, off, none⟩ ∧ w.cell? ⟨b, off + i, none⟩ = some (.string (N i))

theorem Strs.later {w w' : World} {ao : Option Addr} {len : Nat} {N : Nat → ByteArray} (h : Strs w ao len N) (hb : Below w.heap.size w w') : Strs w' ao len N := by
  intro i hi
  obtain ⟨hs, b, off, ha, c0⟩ := h i hi
  exact ⟨hs, b, off, ha, cell_later hb c0⟩

/-- What the test on the total length says: no, or every text is short. -/
def BytesPost (w : World) (len : Nat) (N : Nat → ByteArray) (name : ByteArray) (e : Ending) (w' : World) : Prop :=
  w' = w ∧ (e = .returned (.bool false) ∨ e = .returned (.bool true) ∧ (∀ i, i < len → (N i).size ≤ 1048576) ∧ name.size ≤ 1048576)

theorem BytesPost.no {w : World} {len : Nat} {N : Nat → ByteArray} {name : ByteArray} : BytesPost w len N name (.returned (.bool false)) w := ⟨rfl, .inl rfl⟩
theorem BytesPost.yes {w : World} {len : Nat} {N : Nat → ByteArray} {name : ByteArray} (h : ∀ i, i < len → (N i).size ≤ 1048576) (h2 : (name.size : Int) ≤ 1048576) : BytesPost w len N name (.returned (.bool true)) w := ⟨rfl, .inr ⟨rfl, h, by omega⟩⟩

set_option maxHeartbeats 1000000 in
theorem zzBytes11 (r : Int) (ao : Option Addr) (len cap : Nat) (N : Nat → ByteArray) (name : ByteArray) (w : World) (hF : Strs w ao len N) (hlen : len ≤ maxLen) (hn : name.size ≤ maxLen) :
    Calls Try.prog 11 #[.int .u8 r, .slice ao len cap, .string name] w (BytesPost w len N name) := by
  unfold maxLen at hlen hn
  by_cases h1 : len ≤ 1048576
  · have h1' : (len : Int) ≤ 1048576 := by omega
    go_enter Try.func11, Try.ntmps11
    go_wp2
    go_loop [7, 8] (fun z t => ∃ (k : Nat) (s : Int), k ≤ len ∧ t = .int .i64 k ∧ z = .int .i64 s ∧ 0 ≤ s ∧ s ≤ 1048576 ∧ Hid (∀ i, i < k → (N i).size ≤ 1048576)) (fun _ t => len - (intOf t).toNat)
    case atStart => exact ⟨0, len, Nat.zero_le _, rfl, rfl, by omega, by omega, fun j h => absurd h (Nat.not_lt_zero j)⟩
    case round =>
      obtain ⟨k, s, hk, rfl, rfl, hs0, hs1, hall⟩ := hrel
      by_cases hlt : k < len
      · obtain ⟨hsz, b, off, rfl, hc0⟩ := hF k hlt
        unfold maxLen at hsz
        have HF : Hid (Strs w (some ⟨b, off, none⟩) len N) := hF
        clear hF
        have hlt' : (k : Int) < (len : Int) := by omega
        go_wp2
        · go_ret
          exact BytesPost.no
        · go_ret
          exact BytesPost.no
        · go_round
          case rel =>
            have hq : ((N k).size : Int) ≤ 1048576 := by assumption
            refine ⟨k + 1, _, by omega, by go_num, rfl, by omega, by assumption, ?_⟩
            intro j hj
            by_cases hjk : j < k
            · exact hall.out j hjk
            · obtain rfl : j = k := by omega
              omega
          case measure => simp [intOf]; omega
      · have hge : len ≤ k := by omega
        go_wp2
        · go_ret
          exact BytesPost.no
        · go_ret
          exact BytesPost.no
        · go_ret
          exact BytesPost.yes (fun i hi => hall.out i (by omega)) (by assumption)
  · have h1' : (1048576 : Int) < (len : Int) := by omega
    go_enter Try.func11, Try.ntmps11
    go_wp2
    go_ret
    exact BytesPost.no

set_option maxHeartbeats 1000000 in
theorem zzBytes17 (ao : Option Addr) (len cap : Nat) (N : Nat → ByteArray) (name : ByteArray) (w : World) (hF : Strs w ao len N) (hlen : len ≤ maxLen) (hn : name.size ≤ maxLen) :
    Calls Try.prog 17 #[.slice ao len cap, .string name] w (BytesPost w len N name) := by
  unfold maxLen at hlen hn
  by_cases h1 : len ≤ 1048576
  · have h1' : (len : Int) ≤ 1048576 := by omega
    go_enter Try.func17, Try.ntmps17
    go_wp2
    go_loop [5, 6] (fun z t => ∃ (k : Nat) (s : Int), k ≤ len ∧ t = .int .i64 k ∧ z = .int .i64 s ∧ 0 ≤ s ∧ s ≤ 1048576 ∧ Hid (∀ i, i < k → (N i).size ≤ 1048576)) (fun _ t => len - (intOf t).toNat)
    case atStart => exact ⟨0, len, Nat.zero_le _, rfl, rfl, by omega, by omega, fun j h => absurd h (Nat.not_lt_zero j)⟩
    case round =>
      obtain ⟨k, s, hk, rfl, rfl, hs0, hs1, hall⟩ := hrel
      by_cases hlt : k < len
      · obtain ⟨hsz, b, off, rfl, hc0⟩ := hF k hlt
        unfold maxLen at hsz
        have HF : Hid (Strs w (some ⟨b, off, none⟩) len N) := hF
        clear hF
        have hlt' : (k : Int) < (len : Int) := by omega
        go_wp2
        · go_ret
          exact BytesPost.no
        · go_ret
          exact BytesPost.no
        · go_round
          case rel =>
            have hq : ((N k).size : Int) ≤ 1048576 := by assumption
            refine ⟨k + 1, _, by omega, by go_num, rfl, by omega, by assumption, ?_⟩
            intro j hj
            by_cases hjk : j < k
            · exact hall.out j hjk
            · obtain rfl : j = k := by omega
              omega
          case measure => simp [intOf]; omega
      · have hge : len ≤ k := by omega
        go_wp2
        · go_ret
          exact BytesPost.no
        · go_ret
          exact BytesPost.no
        · go_ret
          exact BytesPost.yes (fun i hi => hall.out i (by omega)) (by assumption)
  · have h1' : (1048576 : Int) < (len : Int) := by omega
    go_enter Try.func17, Try.ntmps17
    go_wp2
    go_ret
    exact BytesPost.no

set_option maxHeartbeats 1000000 in
theorem zzBytes19 (r : Int) (ao : Option Addr) (len cap : Nat) (N : Nat → ByteArray) (name : ByteArray) (w : World) (hF : Strs w ao len N) (hlen : len ≤ maxLen) (hn : name.size ≤ maxLen) :
    Calls Try.prog 19 #[.int .u8 r, .slice ao len cap, .string name] w (BytesPost w len N name) := by
  unfold maxLen at hlen hn
  by_cases h1 : len ≤ 1048576
  · have h1' : (len : Int) ≤ 1048576 := by omega
    go_enter Try.func19, Try.ntmps19
    go_wp2
    go_loop [7, 8] (fun z t => ∃ (k : Nat) (s : Int), k ≤ len ∧ t = .int .i64 k ∧ z = .int .i64 s ∧ 0 ≤ s ∧ s ≤ 1048576 ∧ Hid (∀ i, i < k → (N i).size ≤ 1048576)) (fun _ t => len - (intOf t).toNat)
    case atStart => exact ⟨0, len, Nat.zero_le _, rfl, rfl, by omega, by omega, fun j h => absurd h (Nat.not_lt_zero j)⟩
    case round =>
      obtain ⟨k, s, hk, rfl, rfl, hs0, hs1, hall⟩ := hrel
      by_cases hlt : k < len
      · obtain ⟨hsz, b, off, rfl, hc0⟩ := hF k hlt
        unfold maxLen at hsz
        have HF : Hid (Strs w (some ⟨b, off, none⟩) len N) := hF
        clear hF
        have hlt' : (k : Int) < (len : Int) := by omega
        go_wp2
        · go_ret
          exact BytesPost.no
        · go_ret
          exact BytesPost.no
        · go_round
          case rel =>
            have hq : ((N k).size : Int) ≤ 1048576 := by assumption
            refine ⟨k + 1, _, by omega, by go_num, rfl, by omega, by assumption, ?_⟩
            intro j hj
            by_cases hjk : j < k
            · exact hall.out j hjk
            · obtain rfl : j = k := by omega
              omega
          case measure => simp [intOf]; omega
      · have hge : len ≤ k := by omega
        go_wp2
        · go_ret
          exact BytesPost.no
        · go_ret
          exact BytesPost.no
        · go_ret
          exact BytesPost.yes (fun i hi => hall.out i (by omega)) (by assumption)
  · have h1' : (1048576 : Int) < (len : Int) := by omega
    go_enter Try.func19, Try.ntmps19
    go_wp2
    go_ret
    exact BytesPost.no

set_option maxHeartbeats 1000000 in
theorem zzBytes22 (r : Int) (ao : Option Addr) (len cap : Nat) (N : Nat → ByteArray) (name : ByteArray) (w : World) (hF : Strs w ao len N) (hlen : len ≤ maxLen) (hn : name.size ≤ maxLen) :
    Calls Try.prog 22 #[.int .u8 r, .slice ao len cap, .string name] w (BytesPost w len N name) := by
  unfold maxLen at hlen hn
  by_cases h1 : len ≤ 1048576
  · have h1' : (len : Int) ≤ 1048576 := by omega
    go_enter Try.func22, Try.ntmps22
    go_wp2
    go_loop [7, 8] (fun z t => ∃ (k : Nat) (s : Int), k ≤ len ∧ t = .int .i64 k ∧ z = .int .i64 s ∧ 0 ≤ s ∧ s ≤ 1048576 ∧ Hid (∀ i, i < k → (N i).size ≤ 1048576)) (fun _ t => len - (intOf t).toNat)
    case atStart => exact ⟨0, len, Nat.zero_le _, rfl, rfl, by omega, by omega, fun j h => absurd h (Nat.not_lt_zero j)⟩
    case round =>
      obtain ⟨k, s, hk, rfl, rfl, hs0, hs1, hall⟩ := hrel
      by_cases hlt : k < len
      · obtain ⟨hsz, b, off, rfl, hc0⟩ := hF k hlt
        unfold maxLen at hsz
        have HF : Hid (Strs w (some ⟨b, off, none⟩) len N) := hF
        clear hF
        have hlt' : (k : Int) < (len : Int) := by omega
        go_wp2
        · go_ret
          exact BytesPost.no
        · go_ret
          exact BytesPost.no
        · go_round
          case rel =>
            have hq : ((N k).size : Int) ≤ 1048576 := by assumption
            refine ⟨k + 1, _, by omega, by go_num, rfl, by omega, by assumption, ?_⟩
            intro j hj
            by_cases hjk : j < k
            · exact hall.out j hjk
            · obtain rfl : j = k := by omega
              omega
          case measure => simp [intOf]; omega
      · have hge : len ≤ k := by omega
        go_wp2
        · go_ret
          exact BytesPost.no
        · go_ret
          exact BytesPost.no
        · go_ret
          exact BytesPost.yes (fun i hi => hall.out i (by omega)) (by assumption)
  · have h1' : (1048576 : Int) < (len : Int) := by omega
    go_enter Try.func22, Try.ntmps22
    go_wp2
    go_ret
    exact BytesPost.no

set_option maxHeartbeats 1000000 in
/-- stringsBytes: some number that is no nuisance to a sum. -/
theorem stringsBytes_any (ao : Option Addr) (len cap : Nat) (N : Nat → ByteArray) (w : World) (hF : Strs w ao len N) (hs : ∀ i, i < len → (N i).size ≤ 1048576) (hlen : len ≤ 65536) :
    Calls Try.prog 12 #[.slice ao len cap] w fun e w' => Hid (∃ s : Int, 0 ≤ s ∧ s ≤ 4194304 ∧ e = .returned (.int .i64 s) ∧ w' = w) := by
  have Hs : Hid (∀ i, i < len → (N i).size ≤ 1048576) := hs
  clear hs
  have h1' : (len : Int) ≤ 65536 := by omega
  go_enter Try.func12, Try.ntmps12
  go_wp2
  go_loop [3, 4] (fun z t => ∃ (k : Nat) (s : Int), k ≤ len ∧ t = .int .i64 k ∧ z = .int .i64 s ∧ 0 ≤ s ∧ s ≤ 1048576) (fun _ t => len - (intOf t).toNat)
  case atStart => exact ⟨0, _, Nat.zero_le _, rfl, rfl, by omega, by omega⟩
  case round =>
    obtain ⟨k, s, hk, rfl, rfl, hs0, hs1⟩ := hrel
    by_cases hlt : k < len
    · obtain ⟨_, b, off, rfl, hc0⟩ := hF k hlt
      have hsz := Hs.out k hlt
      have HF : Hid (Strs w (some ⟨b, off, none⟩) len N) := hF
      clear hF
      have hlt' : (k : Int) < (len : Int) := by omega
      go_wp2
      · go_ret
        exact ⟨_, by omega, by omega, rfl, rfl⟩
      · go_round
        case rel => exact ⟨k + 1, _, by omega, by go_num, rfl, by omega, by assumption⟩
        case measure => simp [intOf]; omega
    · have hge : len ≤ k := by omega
      go_wp2
      go_ret
      exact ⟨_, hs0, by omega, rfl, rfl⟩

end Go.Proofs.Qxb6001745a
