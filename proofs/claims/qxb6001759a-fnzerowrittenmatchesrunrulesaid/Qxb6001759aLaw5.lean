import Derived.Test.Qxb6001759aZero
namespace Go.Proofs.Qxb6001759a
open Go.RowKit
set_option linter.unusedVariables false

theorem tmod_pos {p : Int} (h : 0 ≤ p) : p.tmod 4 = p % 4 := Int.tmod_eq_emod_of_nonneg h
theorem tmod_neg {p : Int} (h : p < 0) : p.tmod 4 ≤ 0 := by
  have e : p.tmod 4 = -((-p).tmod 4) := by rw [Int.neg_tmod]; omega
  have := tmod_pos (p := -p) (by omega)
  omega

theorem rule_one {q p : Int} {z : Bool} (h : q - p = 1) : zwB (q - p - 1) p z = !z := by
  rw [h]; rfl
theorem rule_neg {q p : Int} {z : Bool} (h : ¬ q - p = 1) (h1 : p + 1 < 0) : zwB (q - p - 1) p z = z := by
  unfold zwB
  have := tmod_neg (p := p) (by omega)
  rw [if_neg (by omega), if_neg (by omega)]
theorem rule_end {q p : Int} {z : Bool} (h : ¬ q - p = 1) (h1 : 0 ≤ p + 1) (h2 : (p + 1) % 4 = 0) : zwB (q - p - 1) p z = true := by
  unfold zwB
  rw [if_neg (by omega), if_pos]
  by_cases e : p = -1
  · exact .inr e
  · left
    rw [tmod_pos (by omega)]
    omega
theorem rule_mid {q p : Int} {z : Bool} (h : ¬ q - p = 1) (h1 : 0 ≤ p + 1) (h2 : ¬ (p + 1) % 4 = 0) : zwB (q - p - 1) p z = z := by
  unfold zwB
  rw [if_neg (by omega), if_neg]
  rintro (e | e)
  · by_cases hp : p = -1
    · subst hp; omega
    · rw [tmod_pos (by omega)] at e
      omega
  · subst e; omega

set_option maxHeartbeats 1000000 in
theorem walk5_in (hp : Bool) (q : Int) (qz : Bool) (p d : Int) (z : Bool) (w : World) (a1 : q ≤ 1073741824) (a2 : -1073741824 ≤ q) (a3 : p ≤ 1073741824) (a4 : -1073741824 ≤ p) :
    Calls Try.prog 5 #[.bool hp, .int .i64 q, .bool qz, .int .i64 p, .int .i64 d, .bool z] w fun e w' => e = .returned (.bool true) ∧ Below w.heap.size w w' := by
  cases hp
  · go_enter Try.func5, Try.ntmps5
    go_wp2_with fail
    refine (zzDigit_any d p z _).mono ?_
    rintro e w1 ⟨rfl, hw⟩
    have hb1 : Below w.heap.size w w1 := by rw [hw]; exact (Below.refl _ _).alloc (Nat.le_refl _) _
    clear hw
    go_wp2_with fail
    refine (zzZero_none none 0 d p z _).mono ?_
    rintro e w2 ⟨rfl, hb⟩
    have hb2 : Below w.heap.size w w2 := hb1.trans (hb.mono hb1.size)
    clear hb hb1
    go_wp2
    go_ret
    exact ⟨ret_bool (by simp), hb2⟩
  · by_cases h : q ≤ p
    · go_enter Try.func5, Try.ntmps5
      go_wp2
      go_ret
      exact ⟨rfl, Below.refl _ _⟩
    have h' : p < q := by omega
    clear h
    go_enter Try.func5, Try.ntmps5
    go_wp2_with fail
    refine (zzDigit_any 1 q qz _).mono ?_
    rintro e w1 ⟨rfl, hw⟩
    have hb1 : Below w.heap.size w w1 := by rw [hw]; exact (Below.refl _ _).alloc (Nat.le_refl _) _
    clear hw
    go_wp2_with fail
    refine (zzDigit_any d p z _).mono ?_
    rintro e w2 ⟨rfl, hw⟩
    have hc2 : w2.cell? ⟨w1.heap.size, 0 + (1 - 1) * 3 + 1, none⟩ = some (.int .i64 q) := by rw [hw]; simp
    have hb2 : Below w.heap.size w w2 := by rw [hw]; exact (hb1.alloc hb1.size _).alloc (by simp; have := hb1.size; omega) _
    clear hw hb1
    have Hc : Hid (w2.cell? ⟨w1.heap.size, 0 + (1 - 1) * 3 + 1, none⟩ = some (.int .i64 q)) := hc2
    clear hc2
    go_wp2_with fail
    refine (zzZero_some w1.heap.size 0 1 1 q d p z w2 (by decide) (by decide) Hc.out).mono ?_
    rintro e w3 ⟨rfl, hb⟩
    have hb3 : Below w.heap.size w w3 := hb2.trans (hb.mono hb2.size)
    clear hb hb2 Hc
    rw [IntWalk.wrap64_in (q - p) (by omega), IntWalk.wrap64_in (q - p - 1) (by omega)]
    by_cases c1 : q - p = 1
    · rw [rule_one c1]
      have t1 : (q - p == 1) = true := by rw [beq_iff_eq]; exact c1
      clear c1
      go_wp2
      go_ret
      exact ⟨ret_bool (by simp), hb3⟩
    · have t1 : (q - p == 1) = false := by rw [beq_eq_false_iff_ne]; exact c1
      by_cases c2 : p + 1 < 0
      · rw [rule_neg c1 c2]
        clear c1
        go_wp2
        go_ret
        exact ⟨ret_bool (by simp), hb3⟩
      · have c2' : 0 ≤ p + 1 := by omega
        clear c2
        by_cases c3 : (p + 1) % 4 = 0
        · rw [rule_end c1 c2' c3]
          have t3 : ((p + 1) % 4 == 0) = true := by rw [beq_iff_eq]; exact c3
          clear c1 c3
          go_wp2
          go_ret
          exact ⟨ret_bool (by simp), hb3⟩
        · rw [rule_mid c1 c2' c3]
          have t3 : ((p + 1) % 4 == 0) = false := by rw [beq_eq_false_iff_ne]; exact c3
          clear c1 c3
          go_wp2
          go_ret
          exact ⟨ret_bool (by simp), hb3⟩

/-- The law at every input. -/
theorem walk5 (hp : Bool) (q : Int) (qz : Bool) (p d : Int) (z : Bool) (w : World) :
    Calls Try.prog 5 #[.bool hp, .int .i64 q, .bool qz, .int .i64 p, .int .i64 d, .bool z] w fun e w' => e = .returned (.bool true) ∧ Below w.heap.size w w' := by
  by_cases a1 : 1073741824 < q
  · go_enter Try.func5, Try.ntmps5
    go_wp2
    go_ret
    exact ⟨rfl, Below.refl _ _⟩
  have a1' : q ≤ 1073741824 := by omega
  clear a1
  by_cases a2 : q < -1073741824
  · go_enter Try.func5, Try.ntmps5
    go_wp2
    go_ret
    exact ⟨rfl, Below.refl _ _⟩
  have a2' : -1073741824 ≤ q := by omega
  clear a2
  by_cases a3 : 1073741824 < p
  · go_enter Try.func5, Try.ntmps5
    go_wp2
    go_ret
    exact ⟨rfl, Below.refl _ _⟩
  have a3' : p ≤ 1073741824 := by omega
  clear a3
  by_cases a4 : p < -1073741824
  · go_enter Try.func5, Try.ntmps5
    go_wp2
    go_ret
    exact ⟨rfl, Below.refl _ _⟩
  exact walk5_in hp q qz p d z w a1' a2' a3' (by omega)

end Go.Proofs.Qxb6001759a
