import Derived.Test.Qxb6001745aLaw5
import Derived.Test.Qxb6001745aLast
namespace Go.Proofs.Qxb6001745a
open Go.RowKit
set_option linter.unusedVariables false

theorem Filled.other {wr : World} {g len k : Nat} {N : Nat → ByteArray} (h : Filled wr g len k N) {a : Addr} (ha : g ≠ a.block) (v : Value) : Filled (wr.setCell a v) g len k N := by
  obtain ⟨f, hr, hs, hn⟩ := h
  exact ⟨f, hr.setOther ha v, hs, hn⟩

theorem stanza_cell0 (w : World) (ao : Option Addr) (len cap : Nat) (r : Int) : (w.alloc (stanzaObj ao len cap r)).cell? ⟨w.heap.size, 0, none⟩ = some (.slice ao len cap) := by
  simp [stanzaObj]
theorem stanza_cell2 (w : World) (ao : Option Addr) (len cap : Nat) (r : Int) : (w.alloc (stanzaObj ao len cap r)).cell? ⟨w.heap.size, 0 + 2, none⟩ = some (.int .u8 r) := by
  simp [stanzaObj]

theorem Filled.name {wr : World} {g len k : Nat} {N : Nat → ByteArray} (h : Filled wr g len k N) {i : Nat} (hi : i < k) (hk : k ≤ len) : wr.cell? ⟨g, i * 2, none⟩ = some (.string (N i)) := by
  obtain ⟨f, hr, ha, hn⟩ := h
  rw [hr.cell (by omega), hn i hi]

/-- The last match of a row is the first of the row reversed. -/
theorem mirror (p : Nat → Bool) (len : Nat) : (idxF (fun i => p (len - 1 - i)) 0 len = -1 ∧ lastF p len = -1) ∨ ∃ k : Nat, k < len ∧ idxF (fun i => p (len - 1 - i)) 0 len = k ∧ lastF p len = (len : Int) - 1 - k := by
  rcases idxF_cases (fun i => p (len - 1 - i)) len with ⟨h, hno⟩ | ⟨k, hk, h, hp, hno⟩
  · refine .inl ⟨h, lastF_none p len fun j hj => ?_⟩
    have := hno (len - 1 - j) (by omega)
    rwa [show len - 1 - (len - 1 - j) = j by omega] at this
  · refine .inr ⟨k, hk, h, ?_⟩
    rw [lastF_hit p (len - 1 - k) hp len (by omega) fun j h1 h2 => ?_]
    · omega
    · have := hno (len - 1 - j) (by omega)
      rwa [show len - 1 - (len - 1 - j) = j by omega] at this

set_option maxHeartbeats 1000000 in
theorem walk6 (r : Int) (ao : Option Addr) (len cap : Nat) (N : Nat → ByteArray) (name : ByteArray) (w : World) (hF : Strs w ao len N) (hlen : len ≤ maxLen) (hn : name.size ≤ maxLen) :
    Calls Try.prog 6 #[.int .u8 r, .slice ao len cap, .string name] w fun e w' => e = .returned (.bool true) ∧ Below w.heap.size w w' := by
  have HF : Hid (Strs w ao len N) := hF
  clear hF
  go_enter Try.func6, Try.ntmps6
  go_wp2_with fail
  refine (zzBytes19 r ao len cap N name w HF.out hlen hn).mono ?_
  rintro e w1 ⟨hw, h⟩
  subst hw
  rcases h with rfl | ⟨rfl, hs, hns⟩
  · go_wp2
    go_ret
    exact ⟨rfl, Below.refl _ _⟩
  have Hs : Hid (∀ i, i < len → (N i).size ≤ 1048576) := hs
  clear hs
  by_cases h2 : len ≤ 65536
  · have h2' : (len : Int) ≤ 65536 := by omega
    have h3' : (name.size : Int) ≤ 1048576 := by omega
    go_wp2_with fail
    refine (stringsBytes_any ao len cap N _ HF.out Hs.out h2).mono ?_
    rintro e w1 ⟨s, s0, s1, rfl, hw⟩
    subst hw
    by_cases h4 : s + (name.size : Int) ≤ 1048576
    · go_wp2_with fail
      refine (buildFields_any ao len cap N _ HF.out h2).mono ?_
      rintro e w2 ⟨rfl, hfill, hb2⟩
      have hms : ∀ i, i < len → (N i).size ≤ maxLen := fun i hi => Nat.le_trans (Hs.out i hi) (by decide)
      have Hms := Hid.out (p := Hid _) hms
      clear hms
      have hmk := run_makeF len h2
      have hlt2 := hfill.lt
      have hst : Filled (w2.alloc (madeF len)) w2.heap.size len 0 (fun i => N (len - 1 - i)) := filled_made w2 len _
      have hfs : Filled (w2.alloc (madeF len)) w1.heap.size len len N := hfill.later ((Below.refl _ _).alloc (Nat.le_refl _) _)
      have hbs : Below w1.heap.size w1 (w2.alloc (madeF len)) := hb2.alloc hb2.size _
      have HSt : Hid (Filled (w2.alloc (madeF len)) w2.heap.size len 0 (fun i => N (len - 1 - i)) ∧ Filled (w2.alloc (madeF len)) w1.heap.size len len N ∧ Below w1.heap.size w1 (w2.alloc (madeF len))) := ⟨hst, hfs, hbs⟩
      clear hst hfs hbs hfill
      have hR1 : w1.heap.size < w2.heap.size := hlt2
      go_wp2
      go_loopw [10] (fun t wr => ∃ k : Nat, k ≤ len ∧ t = .int .i64 k ∧ Filled wr w2.heap.size len k (fun i => N (len - 1 - i)) ∧ Filled wr w1.heap.size len len N ∧ Below w1.heap.size w1 wr) (fun t _ => len - (intOf t).toNat)
      case atStart => exact ⟨0, Nat.zero_le _, rfl, HSt.out⟩
      case round =>
        obtain ⟨k, hk, rfl, hrev, hfl, hbel⟩ := hrel
        by_cases hlt : k < len
        · have hlt' : (k : Int) < (len : Int) := by omega
          have gn := hfl.name (i := len - 1 - k) (by omega) (Nat.le_refl _)
          obtain ⟨v, gv⟩ := hfl.cell (j := (len - 1 - k) * 2 + 1) (by omega)
          obtain ⟨s0, c0⟩ := hrev.cell (j := k * 2) (by omega)
          obtain ⟨s1, c1⟩ := hrev.cell (j := k * 2 + 1) (by omega)
          have f0 := hrev.frozen (k * 2)
          have f1 := hrev.frozen (k * 2 + 1)
          go_wp2
          go_roundw
          case rel => exact ⟨k + 1, by omega, by go_num, hrev.step (N := fun i => N (len - 1 - i)) v, (hfl.other (by simp; omega) _).other (by simp; omega) _, (hbel.setCell (Nat.le_of_lt hR1) _).setCell (Nat.le_of_lt hR1) _⟩
          case measure => simp [intOf]; omega
        · have hge : len ≤ k := by omega
          obtain rfl : k = len := by omega
          have hR2 := hrev.lt
          go_wp2_with fail
          refine (newStanza_any r _ k k wr).mono ?_
          rintro e w3 ⟨rfl, hw3⟩
          have hb3 : Below wr.heap.size wr w3 := by rw [hw3]; exact (Below.refl _ _).alloc (Nat.le_refl _) _
          have c0 : w3.cell? ⟨wr.heap.size, 0, none⟩ = some (.slice (some ⟨w1.heap.size, 0, none⟩) k k) := by rw [hw3]; exact stanza_cell0 _ _ _ _ _
          have c2 : w3.cell? ⟨wr.heap.size, 0 + 2, none⟩ = some (.int .u8 r) := by rw [hw3]; exact stanza_cell2 _ _ _ _ _
          have hfl3 := hfl.later hb3
          have hrev3 := hrev.later hb3
          have hb13 : Below w1.heap.size w1 w3 := hbel.trans (hb3.mono hbel.size)
          clear hw3 hb3 hfl hrev hbel
          have Hc : Hid (w3.cell? ⟨wr.heap.size, 0, none⟩ = some (.slice (some ⟨w1.heap.size, 0, none⟩) k k) ∧ w3.cell? ⟨wr.heap.size, 0 + 2, none⟩ = some (.int .u8 r)) := ⟨c0, c2⟩
          clear c0 c2
          go_wp2_with fail
          refine (zzLast_any wr.heap.size 0 r _ k k N name w3 (hfl3.flds0 Hms.out) hlen hn Hc.out.1 Hc.out.2).mono ?_
          rintro e w4 ⟨rfl, m, rfl⟩
          have hb34 : Below w3.heap.size w3 (w3.drewN m) := below_drewN (Below.refl _ _) m
          have hrev4 := hrev3.later hb34
          clear hb34 hrev3 hfl3
          go_wp2_with fail
          refine (zzIndexOf_any r _ k k (fun i => N (k - 1 - i)) name (w3.drewN m) (hrev4.flds0 fun i hi => Hms.out _ (by omega)) hlen hn).mono ?_
          rintro e w5 ⟨rfl, hb5⟩
          have hb15 : Below w1.heap.size w1 w5 := (below_drewN hb13 m).trans (hb5.mono hb13.size)
          clear hrev4 hb5 hb13
          rcases mirror (fun i => sameB r (N i) name) k with ⟨e1, e2⟩ | ⟨j, hj, e1, e2⟩
          · rw [e1, e2]
            clear e1 e2
            go_wp2
            go_ret
            exact ⟨rfl, hb15⟩
          · rw [e1, e2]
            clear e1 e2
            have hj' : (j : Int) < (k : Int) := by omega
            go_wp2
            go_ret
            exact ⟨ret_bool (by simp), hb15⟩
    · have h4' : 1048576 < s + (name.size : Int) := by omega
      go_wp2
      go_ret
      exact ⟨rfl, Below.refl _ _⟩
  · have h2' : (65536 : Int) < (len : Int) := by omega
    go_wp2
    go_ret
    exact ⟨rfl, Below.refl _ _⟩

end Go.Proofs.Qxb6001745a
