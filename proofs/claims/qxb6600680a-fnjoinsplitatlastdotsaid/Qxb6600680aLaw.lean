import Derived.Test.Qxb6600680aDot
import Derived.Lib.Strings
import Derived.Lib.IndexBytes
namespace Go.Proofs.Qxb6600680a
open Go.RowKit
set_option linter.unusedVariables false

theorem joinB_list (p k : ByteArray) : (joinB p k).data.toList = p.data.toList ++ 46 :: k.data.toList := by
  simp [joinB, ByteArray.data_append]

theorem joinB_size (p k : ByteArray) : (joinB p k).size = p.size + 1 + k.size := by
  simp [joinB, ByteArray.size_append]
  rfl

theorem byte_at (s : ByteArray) (i : Nat) (h : i < s.size) (h' : i < s.data.toList.length) : s[i] = s.data.toList[i] := by
  rw [ByteArray.getElem_eq_getElem_data]; simp

theorem joinB_dot (p k : ByteArray) (h : p.size < (joinB p k).size) : (((joinB p k)[p.size].toNat : Int) == 46) = true := by
  have hl : p.data.toList.length = p.size := by simp
  rw [byte_at _ _ h (by rw [joinB_list]; simp)]
  have : (joinB p k).data.toList[p.size]'(by rw [joinB_list]; simp) = 46 := by
    simp only [joinB_list]
    rw [List.getElem_append_right (by omega)]
    simp
  rw [this]
  rfl

theorem joinB_key (p k : ByteArray) (i : Nat) (h : i < (joinB p k).size) (hi : p.size < i) (hk : ∀ j, (h : j < k.size) → ((k[j].toNat : Int) == 46) = false) : (((joinB p k)[i].toNat : Int) == 46) = false := by
  have hs := joinB_size p k
  have hl : p.data.toList.length = p.size := by simp
  have hkl : k.data.toList.length = k.size := by simp
  have hj : i - p.size - 1 < k.size := by omega
  have e : (joinB p k)[i] = k[i - p.size - 1] := by
    rw [byte_at _ _ h (by rw [joinB_list]; simp; omega), byte_at k _ hj (by omega)]
    simp only [joinB_list]
    rw [List.getElem_append_right (by omega), List.getElem_cons, dif_neg (by omega)]
    simp only [hl]
  rw [e]
  exact hk _ hj

theorem drop_mid (c : UInt8) (b : List UInt8) : ∀ a : List UInt8, (a ++ c :: b).drop (a.length + 1) = b
  | [] => rfl
  | _ :: a => drop_mid c b a

theorem joinB_head (p k : ByteArray) : (((joinB p k).extract 0 p.size).toList == p.toList) = true := by
  rw [beq_iff_eq, Lib.toList_data, Lib.toList_data, Lib.extract_data, joinB_list]
  have hl : p.data.toList.length = p.size := by simp
  rw [List.drop_zero, Nat.sub_zero, ← hl, List.take_left]

theorem joinB_tail (p k : ByteArray) : (((joinB p k).extract (p.size + 1) (joinB p k).size).toList == k.toList) = true := by
  rw [beq_iff_eq, Lib.toList_data, Lib.toList_data, Lib.extract_to_end, joinB_list]
  have hl : p.data.toList.length = p.size := by simp
  rw [← hl, drop_mid]

set_option maxHeartbeats 1000000 in
theorem walk4 (p k : ByteArray) (w : World) (hp : p.size ≤ maxLen) (hk : k.size ≤ maxLen) :
    Calls Try.prog 4 #[.string p, .string k] w fun e w' => e = .returned (.bool true) ∧ w' = w := by
  go_enter Try.func4, Try.ntmps4
  go_wp2_with fail
  refine (zzBytes7 p k w hp hk).mono ?_
  rintro e w1 ⟨hw, h⟩
  subst hw
  rcases h with rfl | ⟨rfl, h1, h2⟩
  · go_wp2
    go_ret
    exact ⟨rfl, rfl⟩
  have h1' : (p.size : Int) ≤ 1048576 := by omega
  have h2' : (k.size : Int) ≤ 1048576 := by omega
  by_cases h3 : (p.size : Int) + k.size ≤ 1048576
  · by_cases h0 : p.size = 0
    · have hne : p.toList.isEmpty = true := by
        rw [ByteArray.toList_eq, List.isEmpty_iff]
        exact List.eq_nil_of_length_eq_zero (by simpa using h0)
      clear h0
      go_wp2
      go_ret
      exact ⟨rfl, rfl⟩
    · have hpos : 0 < p.size := by omega
      have hne : p.toList.isEmpty = false := by
        rw [ByteArray.toList_eq, List.isEmpty_eq_false_iff_exists_mem]
        have : 0 < p.data.toList.length := by simpa using hpos
        exact ⟨_, List.getElem_mem this⟩
      clear h0
      go_wp2_with fail
      refine (hasDot_any k _ hk).mono ?_
      rintro e w2 ⟨hw, h⟩
      subst hw
      rcases h with rfl | ⟨rfl, hdot⟩
      · go_wp2
        go_ret
        exact ⟨rfl, rfl⟩
      have Hdot : Hid (∀ i, (h : i < k.size) → ((k[i].toNat : Int) == 46) = false) := hdot
      clear hdot
      go_wp2_with fail
      refine (join_any p k _ hpos h1 h2).mono ?_
      rintro e w3 ⟨rfl, hw⟩
      subst hw
      have hs := joinB_size p k
      have j1 : ∀ h : p.size < (joinB p k).size, (((joinB p k)[p.size].toNat : Int) == 46) = true := joinB_dot p k
      have j2 : ∀ i, (h : i < (joinB p k).size) → p.size < i → (((joinB p k)[i].toNat : Int) == 46) = false := fun i h hi => joinB_key p k i h hi Hdot.out
      have j3 := joinB_head p k
      have j4 := joinB_tail p k
      generalize joinB p k = r at *
      have hs1 : p.size + 1 ≤ r.size := by omega
      have hs2 : r.size ≤ 2097153 := by omega
      have HJ : Hid ((∀ h : p.size < r.size, ((r[p.size].toNat : Int) == 46) = true) ∧ (∀ i, (h : i < r.size) → p.size < i → ((r[i].toNat : Int) == 46) = false) ∧ ((r.extract 0 p.size).toList == p.toList) = true ∧ ((r.extract (p.size + 1) r.size).toList == k.toList) = true) := ⟨j1, j2, j3, j4⟩
      clear j1 j2 j3 j4 hs
      go_wp2
      go_loop [6, 7] (fun z t => ∃ m : Nat, p.size < m ∧ m ≤ r.size ∧ t = .int .i64 ((m : Int) - 1) ∧ z = .int .i64 (-1)) (fun _ t => (intOf t + 1).toNat)
      case atStart => exact ⟨r.size, by omega, Nat.le_refl _, rfl, rfl⟩
      case round =>
        obtain ⟨m, hm1, hm2, rfl, rfl⟩ := hrel
        match m, hm1, hm2 with
        | m + 1, hm1, hm2 =>
          have em : ((m + 1 : Nat) : Int) - 1 = (m : Int) := by omega
          rw [em]
          clear em
          have hmr : m < r.size := by omega
          have hmr' : (m : Int) < (r.size : Int) := by omega
          by_cases hmp : p.size < m
          · have hb := HJ.out.2.1 m hmr hmp
            go_wp2
            go_round
            case rel => exact ⟨m, hmp, by omega, rfl, rfl⟩
            case measure => simp [intOf]
          · obtain rfl : m = p.size := by omega
            have hb := HJ.out.1 hmr
            have ha := HJ.out.2.2.1
            have hc := HJ.out.2.2.2
            go_wp2
            go_ret
            exact ⟨rfl, rfl⟩
  · have h3' : 1048576 < (p.size : Int) + k.size := by omega
    go_wp2
    go_ret
    exact ⟨rfl, rfl⟩

end Go.Proofs.Qxb6600680a
