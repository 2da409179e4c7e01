import Derived.Test.Qxb6001745aKey
namespace Go.Proofs.Qxb6001745a
open Go.RowKit
set_option linter.unusedVariables false

theorem idxF_cases (p : Nat → Bool) (len : Nat) : (idxF p 0 len = -1 ∧ ∀ j, j < len → p j = false) ∨ ∃ k, k < len ∧ idxF p 0 len = k ∧ p k = true ∧ ∀ j, j < k → p j = false := by
  have all : ∀ m, m ≤ len → (∀ j, j < m → p j = false) ∨ ∃ k, k < m ∧ p k = true ∧ ∀ j, j < k → p j = false := by
    intro m
    induction m with
    | zero => intro _; exact .inl fun j h => absurd h (Nat.not_lt_zero j)
    | succ m ih =>
      intro hm
      rcases ih (by omega) with h | ⟨k, hk, h1, h2⟩
      · cases e : p m
        · left
          intro j hj
          by_cases hjm : j < m
          · exact h j hjm
          · obtain rfl : j = m := by omega
            exact e
        · exact .inr ⟨m, by omega, e, h⟩
      · exact .inr ⟨k, by omega, h1, h2⟩
  rcases all len (Nat.le_refl _) with h | ⟨k, hk, h1, h2⟩
  · exact .inl ⟨idxF_none p len 0 fun j _ hj => h j (by omega), h⟩
  · exact .inr ⟨k, hk, idxF_hit p k h1 len 0 (Nat.zero_le _) (by omega) fun j _ hj => h2 j hj, h1, h2⟩

theorem mapBA_list (G : Int → Int) (s : ByteArray) : (mapBA G s).data.toList = s.data.toList.map fun c => UInt8.ofNat (G c.toNat).toNat := rfl
theorem mapBA_size (G : Int → Int) (s : ByteArray) : (mapBA G s).size = s.size := by
  show (mapBA G s).data.size = s.size
  rw [← Array.length_toList, mapBA_list]
  simp

theorem foldI_swapI (c : Int) (h0 : 0 ≤ c) (h1 : c ≤ 255) : foldI 0 (swapI c) = foldI 0 c := by
  unfold foldI swapI
  repeat' split
  all_goals omega

theorem foldL_swap (s : ByteArray) : foldL 0 (mapBA swapI s).data.toList = foldL 0 s.data.toList := by
  rw [mapBA_list]
  simp only [foldL, List.map_map]
  refine List.map_congr_left fun c _ => ?_
  have hr := swapI_range c.toNat (byte_lo c) (byte_hi c)
  have e : ((UInt8.ofNat (swapI c.toNat).toNat).toNat : Int) = swapI c.toNat := by
    rw [UInt8.toNat_ofNat']
    omega
  simp only [Function.comp]
  rw [e]
  exact foldI_swapI _ (byte_lo c) (byte_hi c)

theorem sameB_swap (a b : ByteArray) : sameB 0 a (mapBA swapI b) = sameB 0 a b := by
  unfold sameB; rw [foldL_swap]

theorem foldL_one (l : List UInt8) : foldL 1 l = l.map fun c => (c.toNat : Int) := by
  unfold foldL
  exact List.map_congr_left fun c _ => foldI_rule (by decide)

theorem byte_inj : ∀ a b : List UInt8, (a.map fun c => (c.toNat : Int)) = (b.map fun c => (c.toNat : Int)) → a = b
  | [], [], _ => rfl
  | [], _ :: _, h => by simp at h
  | _ :: _, [], h => by simp at h
  | x :: a, y :: b, h => by
    simp only [List.map_cons, List.cons.injEq] at h
    rw [byte_inj a b h.2]
    congr 1
    exact UInt8.toNat_inj.1 (by omega)

/-- Under rule 1 the same is the same bytes. -/
theorem sameB_one {a b : ByteArray} (h : sameB 1 a b = true) : a = b := by
  have h' : foldL 1 a.data.toList = foldL 1 b.data.toList := of_decide_eq_true h
  rw [foldL_one, foldL_one] at h'
  have := byte_inj _ _ h'
  have e : a.data = b.data := by
    rw [← Array.toArray_toList (xs := a.data), ← Array.toArray_toList (xs := b.data), this]
  cases a; cases b; simp_all

theorem sameB_refl (n : Int) (a : ByteArray) : sameB n a a = true := decide_eq_true rfl

set_option maxHeartbeats 1000000 in
theorem walk5 (ao : Option Addr) (len cap : Nat) (N : Nat → ByteArray) (name : ByteArray) (w : World) (hF : Strs w ao len N) (hlen : len ≤ maxLen) (hn : name.size ≤ maxLen) :
    Calls Try.prog 5 #[.slice ao len cap, .string name] w fun e w' => e = .returned (.bool true) ∧ Below w.heap.size w w' := by
  have HF : Hid (Strs w ao len N) := hF
  clear hF
  go_enter Try.func5, Try.ntmps5
  go_wp2_with fail
  refine (zzBytes17 ao len cap N name w HF.out hlen hn).mono ?_
  rintro e w1 ⟨hw, h⟩
  subst hw
  rcases h with rfl | ⟨rfl, hs, hns⟩
  · go_wp2
    go_ret
    exact ⟨rfl, Below.refl _ _⟩
  have Hs : Hid (∀ i, i < len → (N i).size ≤ 1048576) := hs
  clear hs
  by_cases h2 : len ≤ 65536
  · have h2' : (len : Int) ≤ 65536 := by omega
    have h3' : (name.size : Int) ≤ 1048576 := by omega
    go_wp2_with fail
    refine (stringsBytes_any ao len cap N _ HF.out Hs.out h2).mono ?_
    rintro e w1 ⟨s, s0, s1, rfl, hw⟩
    subst hw
    by_cases h4 : s + (name.size : Int) ≤ 1048576
    · go_wp2_with fail
      refine (buildFields_any ao len cap N _ HF.out h2).mono ?_
      rintro e w2 ⟨rfl, hfill, hb2⟩
      have hms : ∀ i, i < len → (N i).size ≤ maxLen := fun i hi => Nat.le_trans (Hs.out i hi) (by decide)
      have Hms := Hid.out (p := Hid _) hms
      clear hms
      have hsw : (mapBA swapI name).size ≤ maxLen := by rw [mapBA_size]; exact hn
      go_wp2_with fail
      refine (zzIndexOf_any 0 _ len len N name _ (hfill.flds0 Hms.out) hlen hn).mono ?_
      rintro e w3 ⟨rfl, hb3⟩
      have hfill3 := hfill.later hb3
      have hb13 : Below w1.heap.size w1 w3 := hb2.trans (hb3.mono hb2.size)
      clear hfill hb2 hb3
      generalize hd : idxF (fun i => sameB 0 (N i) name) 0 len = d
      have Hd : Hid (idxF (fun i => sameB 0 (N i) name) 0 len = d) := hd
      clear hd
      go_wp2_with fail
      refine (swapCase_any name _ hns).mono ?_
      rintro e w4 ⟨rfl, hb4⟩
      have hfill4 := hfill3.later hb4
      have hb14 : Below w1.heap.size w1 w4 := hb13.trans (hb4.mono hb13.size)
      clear hfill3 hb13 hb4
      go_wp2_with fail
      refine (zzIndexOf_any 0 _ len len N (mapBA swapI name) _ (hfill4.flds0 Hms.out) hlen hsw).mono ?_
      rintro e w5 ⟨rfl, hb5⟩
      have hfill5 := hfill4.later hb5
      have hb15 : Below w1.heap.size w1 w5 := hb14.trans (hb5.mono hb14.size)
      clear hfill4 hb14 hb5
      have hd2 : idxF (fun i => sameB 0 (N i) (mapBA swapI name)) 0 len = d := by
        simp only [sameB_swap]
        exact Hd.out
      rw [hd2]
      clear hd2
      go_wp2_with fail
      refine (zzIndexOf_any 1 _ len len N name _ (hfill5.flds0 Hms.out) hlen hn).mono ?_
      rintro e w6 ⟨rfl, hb6⟩
      have hb16 : Below w1.heap.size w1 w6 := hb15.trans (hb6.mono hb15.size)
      clear hfill5 hb15 hb6
      rcases idxF_cases (fun i => sameB 1 (N i) name) len with ⟨ht, _⟩ | ⟨k, hk, ht, hk1, _⟩
      · rw [ht]
        clear ht
        go_wp2
        go_ret
        exact ⟨rfl, hb16⟩
      · rw [ht]
        clear ht
        have hNk : N k = name := sameB_one hk1
        obtain ⟨_, b, off, rfl, hc0⟩ := HF.out k hk
        have g0 := cell_later hb16 hc0
        rw [hNk] at g0
        have hk' : (k : Int) < (len : Int) := by omega
        obtain ⟨j, hj, rfl⟩ : ∃ j : Nat, j ≤ k ∧ d = (j : Int) := by
          rcases idxF_cases (fun i => sameB 0 (N i) name) len with ⟨_, hno⟩ | ⟨j, hj, hjd, hj1, hj2⟩
          · have := hno k hk
            simp only [hNk, sameB_refl] at this
            cases this
          · refine ⟨j, ?_, Hd.out.symm.trans hjd⟩
            rcases Nat.lt_or_ge k j with h | h
            · have := hj2 k h
              simp only [hNk, sameB_refl] at this
              cases this
            · exact h
        have hj' : (j : Int) ≤ (k : Int) := by omega
        clear hk1 hNk hc0
        go_wp2
        go_ret
        exact ⟨rfl, hb16⟩
    · have h4' : 1048576 < s + (name.size : Int) := by omega
      go_wp2
      go_ret
      exact ⟨rfl, Below.refl _ _⟩
  · have h2' : (65536 : Int) < (len : Int) := by omega
    go_wp2
    go_ret
    exact ⟨rfl, Below.refl _ _⟩

end Go.Proofs.Qxb6001745a
