import Derived.Test.Qxb6001745aLaw6
namespace Go.Proofs.Qxb6001745a
open Go.RowKit
set_option linter.unusedVariables false

/-- How many of the first m. -/
def cntF (p : Nat → Bool) : Nat → Nat
  | 0 => 0
  | m + 1 => cntF p m + if p m = true then 1 else 0

theorem cntF_yes {p : Nat → Bool} {m : Nat} (h : p m = true) : cntF p (m + 1) = cntF p m + 1 := by rw [cntF, if_pos h]
theorem cntF_no {p : Nat → Bool} {m : Nat} (h : p m = false) : cntF p (m + 1) = cntF p m := by rw [cntF, if_neg (by simp [h])]; rfl

theorem cntF_le (p : Nat → Bool) : ∀ m, cntF p m ≤ m
  | 0 => Nat.le_refl _
  | m + 1 => by have := cntF_le p m; rw [cntF]; split <;> omega

theorem cntF_mono (p : Nat → Bool) (a : Nat) : ∀ d, cntF p a ≤ cntF p (a + d)
  | 0 => Nat.le_refl _
  | d + 1 => by have := cntF_mono p a d; rw [← Nat.add_assoc, cntF]; omega

theorem cntF_zero (p : Nat → Bool) : ∀ m, (∀ j, j < m → p j = false) → cntF p m = 0
  | 0, _ => rfl
  | m + 1, h => by rw [cntF_no (h m (by omega))]; exact cntF_zero p m fun j hj => h j (by omega)

theorem cntF_stay (p : Nat → Bool) (a : Nat) : ∀ d, (∀ j, a ≤ j → j < a + d → p j = false) → cntF p (a + d) = cntF p a
  | 0, _ => rfl
  | d + 1, h => by
    rw [← Nat.add_assoc, cntF_no (h (a + d) (by omega) (by omega))]
    exact cntF_stay p a d fun j h1 h2 => h j h1 (by omega)

/-- First and last are one just where there is one match. -/
theorem cntF_one (p : Nat → Bool) (len f l : Nat) (hf : p f = true) (hf0 : ∀ j, j < f → p j = false) (hl : p l = true) (hll : l < len) (hl1 : ∀ j, l < j → j < len → p j = false) (hfl : f ≤ l) :
    (((f : Int) == (l : Int)) == ((cntF p len : Int) == 1)) = true := by
  have e1 : cntF p f = 0 := cntF_zero p f hf0
  have e2 : cntF p (f + 1) = 1 := by rw [cntF_yes hf, e1]
  have e3 : cntF p len = cntF p (l + 1) := by
    have := cntF_stay p (l + 1) (len - (l + 1)) fun j h1 h2 => hl1 j (by omega) (by omega)
    rwa [show l + 1 + (len - (l + 1)) = len by omega] at this
  by_cases e : f = l
  · subst e
    rw [e3, e2]
    simp
  · have e4 := cntF_mono p (f + 1) (l - (f + 1))
    rw [show f + 1 + (l - (f + 1)) = l by omega, e2] at e4
    have e5 := cntF_yes hl
    have n1 : ((f : Int) == (l : Int)) = false := by rw [beq_eq_false_iff_ne]; omega
    have n2 : ((cntF p len : Int) == 1) = false := by rw [beq_eq_false_iff_ne]; omega
    rw [n1, n2]
    rfl

theorem idxF_single (p : Nat → Bool) (h : p 0 = true) : idxF p 0 1 = 0 := by simp [idxF, h]
theorem idxF_single_no (p : Nat → Bool) (h : p 0 = false) : idxF p 0 1 = -1 := by simp [idxF, h]

/-- First and last of one row. -/
theorem ends (p : Nat → Bool) (len : Nat) : (idxF p 0 len = -1 ∧ lastF p len = -1) ∨
    ∃ f l : Nat, f ≤ l ∧ l < len ∧ idxF p 0 len = f ∧ lastF p len = l ∧ p f = true ∧ p l = true ∧ (∀ j, j < f → p j = false) ∧ ∀ j, l < j → j < len → p j = false := by
  rcases idxF_cases p len with ⟨h, hno⟩ | ⟨f, hf, h, hp, hno⟩
  · exact .inl ⟨h, lastF_none p len hno⟩
  · right
    rcases mirror p len with ⟨h1, h2⟩ | ⟨k, hk, h1, h2⟩
    · rcases idxF_cases (fun i => p (len - 1 - i)) len with ⟨h', hno'⟩ | ⟨f', hf', h', hp', hno'⟩
      · have := hno' (len - 1 - f) (by omega)
        simp only [show len - 1 - (len - 1 - f) = f by omega] at this
        rw [hp] at this; cases this
      · rw [h1] at h'; omega
    · rcases idxF_cases (fun i => p (len - 1 - i)) len with ⟨h', hno'⟩ | ⟨k', hk', h', hp', hno'⟩
      · rw [h1] at h'; omega
      · obtain rfl : k' = k := by rw [h1] at h'; omega
        have after : ∀ j, len - 1 - k' < j → j < len → p j = false := fun j h3 h4 => by
          have := hno' (len - 1 - j) (by omega)
          rwa [show len - 1 - (len - 1 - j) = j by omega] at this
        refine ⟨f, len - 1 - k', ?_, by omega, h, by rw [h2]; omega, hp, hp', hno, after⟩
        rcases Nat.lt_or_ge (len - 1 - k') f with h5 | h5
        · have := after f h5 hf
          rw [hp] at this; cases this
        · exact h5

set_option maxHeartbeats 1000000 in
theorem walk7 (r : Int) (ao : Option Addr) (len cap : Nat) (N : Nat → ByteArray) (name : ByteArray) (w : World) (hF : Strs w ao len N) (hlen : len ≤ maxLen) (hn : name.size ≤ maxLen) :
    Calls Try.prog 7 #[.int .u8 r, .slice ao len cap, .string name] w fun e w' => e = .returned (.bool true) ∧ Below w.heap.size w w' := by
  have HF : Hid (Strs w ao len N) := hF
  clear hF
  go_enter Try.func7, Try.ntmps7
  go_wp2_with fail
  refine (zzBytes22 r ao len cap N name w HF.out hlen hn).mono ?_
  rintro e w1 ⟨hw, h⟩
  subst hw
  rcases h with rfl | ⟨rfl, hs, hns⟩
  · go_wp2
    go_ret
    exact ⟨rfl, Below.refl _ _⟩
  have Hs : Hid (∀ i, i < len → (N i).size ≤ 1048576) := hs
  clear hs
  by_cases h2 : len ≤ 65536
  · have h2' : (len : Int) ≤ 65536 := by omega
    have h3' : (name.size : Int) ≤ 1048576 := by omega
    go_wp2_with fail
    refine (stringsBytes_any ao len cap N _ HF.out Hs.out h2).mono ?_
    rintro e w1 ⟨s, s0, s1, rfl, hw⟩
    subst hw
    by_cases h4 : s + (name.size : Int) ≤ 1048576
    · go_wp2_with fail
      refine (buildFields_any ao len cap N _ HF.out h2).mono ?_
      rintro e w2 ⟨rfl, hfill, hb2⟩
      have hms : ∀ i, i < len → (N i).size ≤ maxLen := fun i hi => Nat.le_trans (Hs.out i hi) (by decide)
      have Hms := Hid.out (p := Hid _) hms
      clear hms
      go_wp2_with fail
      refine (newStanza_any r _ len len w2).mono ?_
      rintro e w3 ⟨rfl, hw3⟩
      have hb3 : Below w2.heap.size w2 w3 := by rw [hw3]; exact (Below.refl _ _).alloc (Nat.le_refl _) _
      have c0 : w3.cell? ⟨w2.heap.size, 0, none⟩ = some (.slice (some ⟨w1.heap.size, 0, none⟩) len len) := by rw [hw3]; exact stanza_cell0 _ _ _ _ _
      have c2 : w3.cell? ⟨w2.heap.size, 0 + 2, none⟩ = some (.int .u8 r) := by rw [hw3]; exact stanza_cell2 _ _ _ _ _
      have hfl3 := hfill.later hb3
      have hb13 : Below w1.heap.size w1 w3 := hb2.trans (hb3.mono hb2.size)
      clear hw3 hb3 hfill
      have Hc : Hid (w3.cell? ⟨w2.heap.size, 0, none⟩ = some (.slice (some ⟨w1.heap.size, 0, none⟩) len len) ∧ w3.cell? ⟨w2.heap.size, 0 + 2, none⟩ = some (.int .u8 r)) := ⟨c0, c2⟩
      clear c0 c2
      go_wp2_with fail
      refine (zzLast_any w2.heap.size 0 r _ len len N name w3 (hfl3.flds0 Hms.out) hlen hn Hc.out.1 Hc.out.2).mono ?_
      rintro e w4 ⟨rfl, m, rfl⟩
      have hb34 : Below w3.heap.size w3 (w3.drewN m) := below_drewN (Below.refl _ _) m
      have hfl4 := hfl3.later hb34
      clear hb34 hfl3
      go_wp2_with fail
      refine (zzIndexOf_any r _ len len N name (w3.drewN m) (hfl4.flds0 Hms.out) hlen hn).mono ?_
      rintro e w5 ⟨rfl, hb5⟩
      have hb15 : Below w1.heap.size w1 w5 := (below_drewN hb13 m).trans (hb5.mono hb13.size)
      have hfl5 := hfl4.later hb5
      clear hfl4 hb5 hb13
      rcases ends (fun i => sameB r (N i) name) len with ⟨e1, e2⟩ | ⟨f, l, hfl, hll, e1, e2, pf, pl, nf, nl⟩
      · rw [e1, e2]
        clear e1 e2
        go_wp2
        go_ret
        exact ⟨rfl, hb15⟩
      · rw [e1, e2]
        clear e1 e2
        have Hp : Hid ((fun i => sameB r (N i) name) f = true ∧ (fun i => sameB r (N i) name) l = true ∧ (∀ j, j < f → (fun i => sameB r (N i) name) j = false) ∧ ∀ j, l < j → j < len → (fun i => sameB r (N i) name) j = false) := ⟨pf, pl, nf, nl⟩
        clear pf pl nf nl
        have hfl' : (f : Int) ≤ (l : Int) := by omega
        have hll' : (l : Int) < (len : Int) := by omega
        have one : (1 : Nat) ≤ maxLen := by decide
        go_wp2_with fail
        refine (zzIndexOf_any r (some ⟨w1.heap.size, l * 2, none⟩) 1 (len - l) (fun i => N (l + i)) name w5 (hfl5.flds Hms.out l 1 (by omega)) one hn).mono ?_
        rintro e w6 ⟨rfl, hb6⟩
        have hb16 : Below w1.heap.size w1 w6 := hb15.trans (hb6.mono hb15.size)
        have hfl6 := hfl5.later hb6
        clear hfl5 hb6 hb15
        rw [idxF_single (fun i => sameB r (N (l + i)) name) (by exact Hp.out.2.1)]
        go_wp2_with fail
        have hle : len = l + 1 := h
        clear h
        refine (zzIndexOf_any r (some ⟨w1.heap.size, 0, none⟩) 0 0 (fun i => N (l + 1 + i)) name w6 (fun i hi => absurd hi (Nat.not_lt_zero i)) (Nat.zero_le _) hn).mono ?_
        rintro e w7 ⟨rfl, hb7⟩
        rw [show idxF (fun i => sameB r (N (l + 1 + i)) name) 0 0 = -1 from rfl]
        have hle' : (l : Int) + 1 = (len : Int) := by omega
        simp only [← hle, hle']
        clear hle hle'
        rotate_left
        have hle : ¬ len = l + 1 := h
        clear h
        refine (zzIndexOf_any r (some ⟨w1.heap.size, (l + 1) * 2, none⟩) (len - (l + 1)) (len - (l + 1)) (fun i => N (l + 1 + i)) name w6 (hfl6.flds Hms.out (l + 1) (len - (l + 1)) (by omega)) (by omega) hn).mono ?_
        rintro e w7 ⟨rfl, hb7⟩
        rw [idxF_none (fun i => sameB r (N (l + 1 + i)) name) (len - (l + 1)) 0 fun j _ hj => Hp.out.2.2.2 (l + 1 + j) (by omega) (by omega)]
        clear hle
        all_goals
          have hb17 : Below w1.heap.size w1 w7 := hb16.trans (hb7.mono hb16.size)
          have hfl7 := hfl6.later hb7
          clear hfl6 hb7 hb16
          go_wp2
          go_loopw [12, 13] (fun z t wr => ∃ k : Nat, k ≤ len ∧ t = .int .i64 k ∧ z = .int .i64 (cntF (fun i => sameB r (N i) name) k) ∧ Filled wr w1.heap.size len len N ∧ Below w1.heap.size w1 wr) (fun _ t _ => len - (intOf t).toNat)
          case atStart => exact ⟨0, Nat.zero_le _, rfl, rfl, hfl7, hb17⟩
          case round =>
            obtain ⟨k, hk, rfl, rfl, hflr, hbel⟩ := hrel
            have hcl := cntF_le (fun i => sameB r (N i) name) k
            by_cases hlt : k < len
            · have hlt' : (k : Int) < (len : Int) := by omega
              go_wp2_with fail
              refine (zzIndexOf_any r (some ⟨w1.heap.size, k * 2, none⟩) 1 (len - k) (fun i => N (k + i)) name wr (hflr.flds Hms.out k 1 (by omega)) one hn).mono ?_
              rintro e w8 ⟨rfl, hb8⟩
              have hb18 : Below w1.heap.size w1 w8 := hbel.trans (hb8.mono hbel.size)
              have hfl8 := hflr.later hb8
              clear hflr hb8 hbel
              cases hsame : sameB r (N k) name
              · rw [idxF_single_no (fun i => sameB r (N (k + i)) name) (by exact hsame)]
                have Hsame : Hid (sameB r (N k) name = false) := hsame
                clear hsame
                go_wp2
                go_roundw
                case rel => exact ⟨k + 1, by omega, by go_num, by rw [cntF_no (p := fun i => sameB r (N i) name) Hsame.out], hfl8, hb18⟩
                case measure => simp [intOf]; omega
              · rw [idxF_single (fun i => sameB r (N (k + i)) name) (by exact hsame)]
                have Hsame : Hid (sameB r (N k) name = true) := hsame
                clear hsame
                go_wp2
                go_roundw
                case rel => exact ⟨k + 1, by omega, by go_num, by rw [cntF_yes (p := fun i => sameB r (N i) name) Hsame.out]; go_num, hfl8, hb18⟩
                case measure => simp [intOf]; omega
            · obtain rfl : k = len := by omega
              have hone := cntF_one (fun i => sameB r (N i) name) k f l Hp.out.1 Hp.out.2.2.1 Hp.out.2.1 hll Hp.out.2.2.2 hfl
              have Hone : Hid ((((f : Int) == (l : Int)) == ((cntF (fun i => sameB r (N i) name) k : Int) == 1)) = true) := hone
              clear hone
              go_wp2
              go_ret
              exact ⟨ret_bool Hone.out, hbel⟩
    · have h4' : 1048576 < s + (name.size : Int) := by omega
      go_wp2
      go_ret
      exact ⟨rfl, Below.refl _ _⟩
  · have h2' : (65536 : Int) < (len : Int) := by omega
    go_wp2
    go_ret
    exact ⟨rfl, Below.refl _ _⟩

end Go.Proofs.Qxb6001745a
