import Derived.Test.Qxb6001745aBuild
namespace Go.Proofs.Qxb6001745a
open Go.RowKit
set_option linter.unusedVariables false

theorem info5 : (Try.prog.info? 5).map (fun i => (i.zero, i.size, i.bytes)) = some (some (.int .u8 0), 1, 1) := by kernel_rfl

/-- The block that 'make([]byte, n)' lays. -/
def madeB (n : Nat) : Obj := .cells (madeCells #[.int .u8 0] n) 5

theorem run_makeB (n : Nat) (hn : n ≤ 1048576) (w : World) :
    (Instr.makeSlice 42 (.int .i64 (n : Int)) (.int .i64 (n : Int))).run Try.prog w = .ok (.slice (some ⟨w.heap.size, 0, none⟩) n n) (w.alloc (madeB n)) :=
  run_make_row' 42 5 (.int .u8 0) 1 Try.underlying42 info5 rfl .i64 .i64 n (by omega) (by omega) w

/-- A text byte by byte. -/
def mapBA (G : Int → Int) (s : ByteArray) : ByteArray := ⟨(s.data.toList.map fun c => UInt8.ofNat (G c.toNat).toNat).toArray⟩

/-- Block g is a row of bytes as long as s; the first k are s's, mapped by G. -/
def Wrote (wr : World) (g : Nat) (s : ByteArray) (k : Nat) (G : Int → Int) : Prop :=
  ∃ f : Nat → Value, wr.rowIs g 5 s.size f ∧ (∀ j, j < s.size → ∃ c, f j = .int .u8 c) ∧ ∀ j, j < k → (h1 : j < s.size) → f j = .int .u8 (G s[j].toNat)

theorem wrote_made (w : World) (s : ByteArray) (G : Int → Int) : Wrote (w.alloc (madeB s.size)) w.heap.size s 0 G :=
  ⟨fun _ => .int .u8 0, World.rowIs_made w _ _ _, fun _ _ => ⟨_, rfl⟩, fun j h => absurd h (Nat.not_lt_zero j)⟩

theorem Wrote.cell {wr : World} {g : Nat} {s : ByteArray} {k : Nat} {G : Int → Int} (h : Wrote wr g s k G) {j : Nat} (hj : j < s.size) : ∃ c, wr.cell? ⟨g, j, none⟩ = some (.int .u8 c) := by
  obtain ⟨f, hr, ha, _⟩ := h
  obtain ⟨c, hc⟩ := ha j hj
  exact ⟨c, by rw [hr.cell hj, hc]⟩

theorem Wrote.frozen {wr : World} {g : Nat} {s : ByteArray} {k : Nat} {G : Int → Int} (h : Wrote wr g s k G) (j : Nat) : wr.frozen? ⟨g, j, none⟩ = false := by
  obtain ⟨f, hr, _, _⟩ := h
  exact hr.frozen j

theorem Wrote.step {wr : World} {g : Nat} {s : ByteArray} {k : Nat} {G : Int → Int} (h : Wrote wr g s k G) (hk : k < s.size) {c : Int} (hc : c = G s[k].toNat) :
    Wrote (wr.setCell ⟨g, k, none⟩ (.int .u8 c)) g s (k + 1) G := by
  obtain ⟨f, hr, ha, hn⟩ := h
  refine ⟨_, hr.set k (.int .u8 c), fun j hj => ?_, fun j hj h1 => ?_⟩
  · show ∃ x, (if j = k then Value.int .u8 c else f j) = .int .u8 x
    split
    · exact ⟨_, rfl⟩
    · exact ha j hj
  · show (if j = k then Value.int .u8 c else f j) = _
    by_cases e : j = k
    · subst e; rw [if_pos rfl, hc]
    · rw [if_neg e]; exact hn j (by omega) h1

theorem Wrote.text {wr : World} {g : Nat} {s : ByteArray} {G : Int → Int} (h : Wrote wr g s s.size G) (hG : ∀ c, 0 ≤ c → c ≤ 255 → 0 ≤ G c ∧ G c ≤ 255) :
    (convert 42 9 (.slice (some ⟨g, 0, none⟩) s.size s.size)).run Try.prog wr = .ok (.string (mapBA G s)) wr := by
  obtain ⟨f, hr, ha, hn⟩ := h
  have hl : (s.data.toList.map fun c => UInt8.ofNat (G c.toNat).toNat).length = s.size := by simp
  have := run_convert_bytes_back (P := Try.prog) wr 42 9 5 ⟨g, 0, none⟩ s.size (s.data.toList.map fun c => UInt8.ofNat (G c.toNat).toNat) Try.underlying42 Try.underlying5 Try.underlying9 (fun j hj => by
    have hj' : j < s.size := by rw [hl] at hj; exact hj
    have e : (⟨g, 0, none⟩ : Addr).add j = ⟨g, j, none⟩ := by unfold Addr.add; split <;> simp_all
    rw [e, hr.cell hj', hn j hj' hj']
    congr 1
    have hb := hG s[j].toNat (byte_lo _) (byte_hi _)
    simp only [List.getElem_map]
    show Value.int .u8 (G s[j].toNat) = Value.int .u8 ((UInt8.ofNat (G s[j].toNat).toNat).toNat : Int)
    congr 1
    rw [UInt8.toNat_ofNat']
    omega)
  rw [hl] at this
  exact this

theorem foldI_range (n c : Int) (h0 : 0 ≤ c) (h1 : c ≤ 255) : 0 ≤ foldI n c ∧ foldI n c ≤ 255 := by unfold foldI; split <;> omega

set_option maxHeartbeats 1000000 in
theorem foldKey_any (n : Int) (s : ByteArray) (w : World) (hs : s.size ≤ 1048576) :
    Calls Try.prog 15 #[.int .u8 n, .string s] w fun e w' => e = .returned (.string (mapBA (foldI n) s)) ∧ Below w.heap.size w w' := by
  have hmk := run_makeB s.size hs
  go_enter Try.func15, Try.ntmps15
  go_wp2
  go_loopw [6] (fun t wr => ∃ k : Nat, k ≤ s.size ∧ t = .int .i64 k ∧ Wrote wr w.heap.size s k (foldI n) ∧ Below w.heap.size w wr) (fun t _ => s.size - (intOf t).toNat)
  case atStart => exact ⟨0, Nat.zero_le _, rfl, wrote_made w s _, (Below.refl _ _).alloc (Nat.le_refl _) _⟩
  case round =>
    obtain ⟨k, hk, rfl, hw, hbel⟩ := hrel
    by_cases hlt : k < s.size
    · obtain ⟨x, c0⟩ := hw.cell hlt
      have f0 := hw.frozen k
      have hlt' : (k : Int) < (s.size : Int) := by omega
      have b0 := byte_lo s[k]
      have b1 := byte_hi s[k]
      have done : ∀ c : Int, c = foldI n s[k].toNat → Wrote (wr.setCell ⟨w.heap.size, k, none⟩ (.int .u8 c)) w.heap.size s (k + 1) (foldI n) := fun c hc => hw.step hlt hc
      have Hdone := Hid.out (p := Hid _) done
      clear done
      by_cases hn : n = 0
      · subst hn
        by_cases ha : 65 ≤ (s[k].toNat : Int)
        · by_cases hb : (s[k].toNat : Int) ≤ 90
          · go_wp2
            go_roundw
            case rel => exact ⟨k + 1, by omega, by go_num, Hdone.out _ (by rw [foldI_yes rfl ha hb]; omega), hbel.setCell (Nat.le_refl _) _⟩
            case measure => simp [intOf]; omega
          · have hb' : 90 < (s[k].toNat : Int) := by omega
            go_wp2
            go_roundw
            case rel => exact ⟨k + 1, by omega, by go_num, Hdone.out _ (by rw [foldI_high hb']), hbel.setCell (Nat.le_refl _) _⟩
            case measure => simp [intOf]; omega
        · have ha' : (s[k].toNat : Int) < 65 := by omega
          go_wp2
          go_roundw
          case rel => exact ⟨k + 1, by omega, by go_num, Hdone.out _ (by rw [foldI_low ha']), hbel.setCell (Nat.le_refl _) _⟩
          case measure => simp [intOf]; omega
      · have hn' : (n == 0) = false := by simp [hn]
        have Hn : Hid (¬ n = 0) := hn
        clear hn
        go_wp2
        go_roundw
        case rel => exact ⟨k + 1, by omega, by go_num, Hdone.out _ (by rw [foldI_rule Hn.out]), hbel.setCell (Nat.le_refl _) _⟩
        case measure => simp [intOf]; omega
    · obtain rfl : k = s.size := by omega
      have hcv := hw.text (foldI_range n)
      go_wp2
      go_ret
      exact ⟨rfl, hbel⟩

/-- A letter of the other case. -/
def swapI (c : Int) : Int := if 65 ≤ c ∧ c ≤ 90 then c + 32 else if 97 ≤ c ∧ c ≤ 122 then c - 32 else c

theorem swapI_range (c : Int) (h0 : 0 ≤ c) (h1 : c ≤ 255) : 0 ≤ swapI c ∧ swapI c ≤ 255 := by unfold swapI; split <;> (try split) <;> omega
theorem swapI_up {c : Int} (h : 65 ≤ c) (h1 : c ≤ 90) : swapI c = c + 32 := by unfold swapI; rw [if_pos ⟨h, h1⟩]
theorem swapI_low {c : Int} (h : 97 ≤ c) (h1 : c ≤ 122) : swapI c = c - 32 := by unfold swapI; rw [if_neg (by omega), if_pos ⟨h, h1⟩]
theorem swapI_no {c : Int} (h : c < 65 ∨ 90 < c) (h1 : c < 97 ∨ 122 < c) : swapI c = c := by unfold swapI; rw [if_neg (by omega), if_neg (by omega)]

set_option maxHeartbeats 1000000 in
theorem swapCase_any (s : ByteArray) (w : World) (hs : s.size ≤ 1048576) :
    Calls Try.prog 18 #[.string s] w fun e w' => e = .returned (.string (mapBA swapI s)) ∧ Below w.heap.size w w' := by
  have hmk := run_makeB s.size hs
  go_enter Try.func18, Try.ntmps18
  go_wp2
  go_loopw [4] (fun t wr => ∃ k : Nat, k ≤ s.size ∧ t = .int .i64 k ∧ Wrote wr w.heap.size s k swapI ∧ Below w.heap.size w wr) (fun t _ => s.size - (intOf t).toNat)
  case atStart => exact ⟨0, Nat.zero_le _, rfl, wrote_made w s _, (Below.refl _ _).alloc (Nat.le_refl _) _⟩
  case round =>
    obtain ⟨k, hk, rfl, hw, hbel⟩ := hrel
    by_cases hlt : k < s.size
    · obtain ⟨x, c0⟩ := hw.cell hlt
      have f0 := hw.frozen k
      have hlt' : (k : Int) < (s.size : Int) := by omega
      have b0 := byte_lo s[k]
      have b1 := byte_hi s[k]
      have done : ∀ c : Int, c = swapI s[k].toNat → Wrote (wr.setCell ⟨w.heap.size, k, none⟩ (.int .u8 c)) w.heap.size s (k + 1) swapI := fun c hc => hw.step hlt hc
      have Hdone := Hid.out (p := Hid _) done
      clear done
      by_cases ha : (s[k].toNat : Int) < 65
      · go_wp2
        go_roundw
        case rel => exact ⟨k + 1, by omega, by go_num, Hdone.out _ (by rw [swapI_no (by omega) (by omega)]), hbel.setCell (Nat.le_refl _) _⟩
        case measure => simp [intOf]; omega
      · have ha' : 65 ≤ (s[k].toNat : Int) := by omega
        by_cases hb : (s[k].toNat : Int) ≤ 90
        · go_wp2
          go_roundw
          case rel => exact ⟨k + 1, by omega, by go_num, Hdone.out _ (by rw [swapI_up ha' hb]; omega), hbel.setCell (Nat.le_refl _) _⟩
          case measure => simp [intOf]; omega
        · have hb' : 90 < (s[k].toNat : Int) := by omega
          by_cases hd : (s[k].toNat : Int) < 97
          · go_wp2
            go_roundw
            case rel => exact ⟨k + 1, by omega, by go_num, Hdone.out _ (by rw [swapI_no (by omega) (by omega)]), hbel.setCell (Nat.le_refl _) _⟩
            case measure => simp [intOf]; omega
          · have hd' : 97 ≤ (s[k].toNat : Int) := by omega
            by_cases he : (s[k].toNat : Int) ≤ 122
            · go_wp2
              go_roundw
              case rel => exact ⟨k + 1, by omega, by go_num, Hdone.out _ (by rw [swapI_low hd' he]; omega), hbel.setCell (Nat.le_refl _) _⟩
              case measure => simp [intOf]; omega
            · have he' : 122 < (s[k].toNat : Int) := by omega
              go_wp2
              go_roundw
              case rel => exact ⟨k + 1, by omega, by go_num, Hdone.out _ (by rw [swapI_no (by omega) (by omega)]), hbel.setCell (Nat.le_refl _) _⟩
              case measure => simp [intOf]; omega
    · obtain rfl : k = s.size := by omega
      have hcv := hw.text swapI_range
      go_wp2
      go_ret
      exact ⟨rfl, hbel⟩

end Go.Proofs.Qxb6001745a
