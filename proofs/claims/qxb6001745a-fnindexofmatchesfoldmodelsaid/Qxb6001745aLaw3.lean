import Derived.Test.Qxb6001745aKey
namespace Go.Proofs.Qxb6001745a
open Go.RowKit
set_option linter.unusedVariables false

theorem mapBA_toList (G : Int → Int) (s : ByteArray) : (mapBA G s).toList = s.data.toList.map fun c => UInt8.ofNat (G c.toNat).toNat := by
  unfold mapBA; rw [ByteArray.toList_mk]

theorem map_key (G : Int → Int) (hG : ∀ c, 0 ≤ c → c ≤ 255 → 0 ≤ G c ∧ G c ≤ 255) : ∀ a b : List UInt8,
    (a.map fun c => UInt8.ofNat (G c.toNat).toNat) = (b.map fun c => UInt8.ofNat (G c.toNat).toNat) ↔ (a.map fun c => G c.toNat) = b.map fun c => G c.toNat
  | [], [] => by simp
  | [], _ :: _ => by simp
  | _ :: _, [] => by simp
  | x :: a, y :: b => by
    simp only [List.map_cons, List.cons.injEq, map_key G hG a b]
    have hx := hG x.toNat (byte_lo x) (byte_hi x)
    have hy := hG y.toNat (byte_lo y) (byte_hi y)
    constructor
    · rintro ⟨h, t⟩
      refine ⟨?_, t⟩
      have := congrArg UInt8.toNat h
      rw [UInt8.toNat_ofNat', UInt8.toNat_ofNat'] at this
      omega
    · rintro ⟨h, t⟩
      exact ⟨by rw [h], t⟩

/-- The keys are one just where the names are the same. -/
theorem sameB_key (n : Int) (a b : ByteArray) : sameB n a b = ((mapBA (foldI n) a).toList == (mapBA (foldI n) b).toList) := by
  rw [mapBA_toList, mapBA_toList, Bool.eq_iff_iff, beq_iff_eq, map_key _ (foldI_range n)]
  exact decide_eq_true_iff

set_option maxHeartbeats 1000000 in
theorem walk3 (r : Int) (ao : Option Addr) (len cap : Nat) (N : Nat → ByteArray) (name : ByteArray) (w : World) (hF : Strs w ao len N) (hlen : len ≤ maxLen) (hn : name.size ≤ maxLen) :
    Calls Try.prog 3 #[.int .u8 r, .slice ao len cap, .string name] w fun e w' => e = .returned (.bool true) ∧ Below w.heap.size w w' := by
  have HF : Hid (Strs w ao len N) := hF
  clear hF
  go_enter Try.func3, Try.ntmps3
  go_wp2_with fail
  refine (zzBytes11 r ao len cap N name w HF.out hlen hn).mono ?_
  rintro e w1 ⟨hw, h⟩
  subst hw
  rcases h with rfl | ⟨rfl, hs, hns⟩
  · go_wp2
    go_ret
    exact ⟨rfl, Below.refl _ _⟩
  have Hs : Hid (∀ i, i < len → (N i).size ≤ 1048576) := hs
  clear hs
  by_cases h2 : len ≤ 65536
  · have h2' : (len : Int) ≤ 65536 := by omega
    have h3' : (name.size : Int) ≤ 1048576 := by omega
    go_wp2_with fail
    refine (stringsBytes_any ao len cap N _ HF.out Hs.out h2).mono ?_
    rintro e w1 ⟨s, s0, s1, rfl, hw⟩
    subst hw
    by_cases h4 : s + (name.size : Int) ≤ 1048576
    · go_wp2_with fail
      refine (buildFields_any ao len cap N _ HF.out h2).mono ?_
      rintro e w2 ⟨rfl, hfill, hb2⟩
      have hms : ∀ i, i < len → (N i).size ≤ maxLen := fun i hi => Nat.le_trans (Hs.out i hi) (by decide)
      have Hms := Hid.out (p := Hid _) hms
      clear hms
      go_wp2_with fail
      refine (zzIndexOf_any r _ len len N name _ (hfill.flds0 Hms.out) hlen hn).mono ?_
      rintro e w3 ⟨rfl, hb3⟩
      generalize hg : idxF (fun i => sameB r (N i) name) 0 len = got
      have Hg : Hid (idxF (fun i => sameB r (N i) name) 0 len = got) := hg
      clear hg
      go_wp2_with fail
      refine (foldKey_any r name _ hns).mono ?_
      rintro e w4 ⟨rfl, hb4⟩
      have hb : Below w1.heap.size w1 w4 := (hb2.trans (hb3.mono hb2.size)).trans (hb4.mono (Nat.le_trans hb2.size hb3.size))
      clear hfill hb2 hb3 hb4
      go_wp2
      go_loopw [9, 11] (fun z t wr => ∃ k : Nat, k ≤ len ∧ t = .int .i64 k ∧ z = .int .i64 (-1) ∧ Hid (∀ j, j < k → sameB r (N j) name = false) ∧ Below w1.heap.size w1 wr) (fun _ t _ => len - (intOf t).toNat)
      case atStart => exact ⟨0, Nat.zero_le _, rfl, rfl, fun j h => absurd h (Nat.not_lt_zero j), hb⟩
      case round =>
        obtain ⟨k, hk, rfl, rfl, hall, hbel⟩ := hrel
        by_cases hlt : k < len
        · obtain ⟨hsz, b, off, rfl, hc0⟩ := HF.out k hlt
          have g0 := cell_later hbel hc0
          have hlt' : (k : Int) < (len : Int) := by omega
          go_wp2_with fail
          refine (foldKey_any r (N k) _ (Hs.out k hlt)).mono ?_
          rintro e w5 ⟨rfl, hb5⟩
          have hsb := sameB_key r (N k) name
          have hb6 : Below w1.heap.size w1 w5 := hbel.trans (hb5.mono hbel.size)
          cases hsame : sameB r (N k) name
          · have hkey : ((mapBA (foldI r) (N k)).toList == (mapBA (foldI r) name).toList) = false := hsb.symm.trans hsame
            have Hsame : Hid (sameB r (N k) name = false) := hsame
            clear hsb hsame
            go_wp2
            go_roundw
            case rel =>
              refine ⟨k + 1, by omega, by go_num, rfl, ?_, hb6⟩
              intro j hj
              by_cases hjk : j < k
              · exact hall.out j hjk
              · obtain rfl : j = k := by omega
                exact Hsame.out
            case measure => simp [intOf]; omega
          · have hkey : ((mapBA (foldI r) (N k)).toList == (mapBA (foldI r) name).toList) = true := hsb.symm.trans hsame
            have Hsame : Hid (sameB r (N k) name = true) := hsame
            clear hsb hsame
            go_wp2
            go_ret
            refine ⟨ret_bool ?_, hb6⟩
            rw [beq_iff_eq, ← Hg.out]
            exact idxF_hit _ k Hsame.out len 0 (Nat.zero_le _) (by omega) fun j _ hj => hall.out j hj
        · have hge : len ≤ k := by omega
          go_wp2
          go_ret
          refine ⟨ret_bool ?_, hbel⟩
          rw [beq_iff_eq, ← Hg.out]
          exact idxF_none _ len 0 fun j _ hj => hall.out j (by omega)
    · have h4' : 1048576 < s + (name.size : Int) := by omega
      go_wp2
      go_ret
      exact ⟨rfl, Below.refl _ _⟩
  · have h2' : (65536 : Int) < (len : Int) := by omega
    go_wp2
    go_ret
    exact ⟨rfl, Below.refl _ _⟩

end Go.Proofs.Qxb6001745a
