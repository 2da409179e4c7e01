import Derived.Test.Qxb6001745aFold
namespace Go.Proofs.Qxb6001745a
open Go.RowKit
set_option linter.unusedVariables false

theorem byte_lo (c : UInt8) : 0 ≤ (c.toNat : Int) := by omega
theorem byte_hi (c : UInt8) : (c.toNat : Int) ≤ 255 := by have := c.toNat_lt; omega

theorem foldL_length (n : Int) (l : List UInt8) : (foldL n l).length = l.length := by simp [foldL]

theorem sameB_size {n : Int} {a b : ByteArray} (h : ¬ a.size = b.size) : sameB n a b = false := by
  refine decide_eq_false fun e => h ?_
  have := congrArg List.length e
  rw [foldL_length, foldL_length] at this
  simpa using this

theorem sameB_at {n : Int} {a b : ByteArray} (k : Nat) (h1 : k < a.size) (h2 : k < b.size) (h : (foldI n a[k].toNat != foldI n b[k].toNat) = true) : sameB n a b = false := by
  refine decide_eq_false fun e => ?_
  rw [bne_iff_ne] at h
  apply h
  have h1' : k < a.data.toList.length := by simpa using h1
  have h2' : k < b.data.toList.length := by simpa using h2
  have := congrArg (fun l : List Int => l[k]?) e
  simp only [foldL, List.getElem?_map, List.getElem?_eq_getElem h1', List.getElem?_eq_getElem h2', Option.map_some, Option.some.injEq] at this
  exact this

theorem sameB_all {n : Int} {a b : ByteArray} (h : a.size = b.size) (hall : ∀ j, (h1 : j < a.size) → (h2 : j < b.size) → foldI n a[j].toNat = foldI n b[j].toNat) : sameB n a b = true := by
  refine decide_eq_true ?_
  refine List.ext_getElem ?_ fun j h1 h2 => ?_
  · rw [foldL_length, foldL_length]; simpa using h
  · have h1' : j < a.size := by rw [foldL_length] at h1; simpa using h1
    have h2' : j < b.size := by rw [foldL_length] at h2; simpa using h2
    simp only [foldL, List.getElem_map]
    exact hall j h1' h2'

set_option maxHeartbeats 1000000 in
theorem sameName_any (n : Int) (a b : ByteArray) (w : World) (ha : a.size ≤ maxLen) (hb : b.size ≤ maxLen) :
    Calls Try.prog 38 #[.int .u8 n, .string a, .string b] w fun e w' => e = .returned (.bool (sameB n a b)) ∧ ∃ m, w' = w.drewN m := by
  unfold maxLen at ha hb
  by_cases hl : a.size = b.size
  · have hne : ((a.size : Int) != (b.size : Int)) = false := by simp [hl]
    have HL : Hid (a.size = b.size) := hl
    have hl1 : a.size ≤ b.size := by omega
    have hl2 : b.size ≤ a.size := by omega
    clear hl
    go_enter Try.func38, Try.ntmps38
    go_wp2
    go_loopw [15] (fun t wr => ∃ k : Nat, k ≤ a.size ∧ t = .int .i64 k ∧ Hid (∀ j, (h : j < k) → (h1 : j < a.size) → (h2 : j < b.size) → foldI n a[j].toNat = foldI n b[j].toNat) ∧ Hid (∃ m, wr = w.drewN m)) (fun t _ => a.size - (intOf t).toNat)
    case atStart => exact ⟨0, Nat.zero_le _, rfl, fun j h => absurd h (Nat.not_lt_zero j), 0, rfl⟩
    case round =>
      obtain ⟨k, hk, rfl, hall, hm⟩ := hrel
      by_cases hlt : k < a.size
      · have hlb : k < b.size := by omega
        have hlt' : (k : Int) < (a.size : Int) := by omega
        have hlb' : (k : Int) < (b.size : Int) := by omega
        go_wp2
        go_quiet ((go_at_call 41; exact Calls.quiet_of_same (fold_any _ _ _ (byte_lo _) (byte_hi _))))
        go_wp2
        · go_ret
          obtain ⟨m, rfl⟩ := hm.out
          exact ⟨ret_bool (sameB_at k hlt hlb ‹_›).symm, m + nq, by simp⟩
        · go_roundw
          case rel =>
            have hq : (foldI n ↑a[k].toNat != foldI n ↑b[k].toNat) = false := by assumption
            refine ⟨k + 1, by omega, by go_num, ?_, ?_⟩
            · intro j hj h1 h2
              by_cases hjk : j < k
              · exact hall.out j hjk h1 h2
              · obtain rfl : j = k := by omega
                simpa using hq
            · obtain ⟨m, rfl⟩ := hm.out
              exact ⟨m + nq, by simp⟩
          case measure => simp [intOf]; omega
      · have hge : a.size ≤ k := by omega
        go_wp2
        go_ret
        exact ⟨ret_bool (sameB_all HL.out fun j h1 h2 => hall.out j (by omega) h1 h2).symm, hm.out⟩
  · rw [sameB_size hl]
    have hne : ((a.size : Int) != (b.size : Int)) = true := by rw [bne_iff_ne]; omega
    clear hl
    go_enter Try.func38, Try.ntmps38
    go_wp2
    go_ret
    exact ⟨rfl, 0, rfl⟩

set_option maxHeartbeats 400000 in
theorem same_any (n : Int) (a b : ByteArray) (w : World) (ha : a.size ≤ maxLen) (hb : b.size ≤ maxLen) :
    Calls Try.prog 35 #[.int .u8 n, .string a, .string b] w fun e w' => e = .returned (.bool (sameB n a b)) ∧ ∃ m, w' = w.drewN m := by
  go_enter Try.func35, Try.ntmps35
  go_wp2_with (go_at_call 38; refine (sameName_any n a b w ha hb).mono ?_; rintro e w1 ⟨rfl, m, rfl⟩)
  go_ret
  exact ⟨rfl, m, rfl⟩

end Go.Proofs.Qxb6001745a
