import Derived.Test.Qxb6001745aIndex
namespace Go.Proofs.Qxb6001745a
open Go.RowKit
set_option linter.unusedVariables false

/-- The last index below m at which p says yes; or -1. -/
def lastF (p : Nat → Bool) : Nat → Int
  | 0 => -1
  | m + 1 => if p m = true then (m : Int) else lastF p m

theorem lastF_none (p : Nat → Bool) : ∀ m, (∀ j, j < m → p j = false) → lastF p m = -1
  | 0, _ => rfl
  | m + 1, h => by
    rw [lastF, h m (by omega), if_neg (by simp)]
    exact lastF_none p m fun j hj => h j (by omega)

theorem lastF_hit (p : Nat → Bool) (k : Nat) (hk : p k = true) : ∀ m, k < m → (∀ j, k < j → j < m → p j = false) → lastF p m = k
  | 0, h, _ => by omega
  | m + 1, h, hj => by
    rw [lastF]
    by_cases e : m = k
    · subst e; rw [if_pos hk]
    · rw [hj m (by omega) (by omega), if_neg (by simp)]
      exact lastF_hit p k hk m (by omega) fun j h1 h2 => hj j h1 (by omega)

/-- The block of a new stanza. -/
def stanzaObj (ao : Option Addr) (len cap : Nat) (r : Int) : Obj := .cells #[.slice ao len cap, .int .u8 0, .int .u8 r, .string ⟨#[]⟩] 51

set_option maxHeartbeats 400000 in
theorem newStanza_any (r : Int) (ao : Option Addr) (len cap : Nat) (w : World) :
    Calls Try.prog 20 #[.slice ao len cap, .int .u8 r] w fun e w' => e = .returned (.pointer (some ⟨w.heap.size, 0, none⟩)) ∧ w' = w.alloc (stanzaObj ao len cap r) := by
  go_enter Try.func20, Try.ntmps20
  go_wp2
  go_ret
  exact ⟨rfl, rfl⟩

set_option maxHeartbeats 1000000 in
theorem last_any (b o : Nat) (r : Int) (ao : Option Addr) (len cap : Nat) (N : Nat → ByteArray) (name : ByteArray) (w : World) (hF : Flds w ao len N) (hlen : len ≤ maxLen) (hn : name.size ≤ maxLen)
    (h0 : w.cell? ⟨b, o, none⟩ = some (.slice ao len cap)) (h2 : w.cell? ⟨b, o + 2, none⟩ = some (.int .u8 r)) :
    Calls Try.prog 32 #[.pointer (some ⟨b, o, none⟩), .string name] w fun e w' => e = .returned (.int .i64 (lastF (fun i => sameB r (N i) name) len)) ∧ ∃ m, w' = w.drewN m := by
  unfold maxLen at hlen
  have HF : Hid (Flds w ao len N) := hF
  clear hF
  go_enter Try.func32, Try.ntmps32
  go_wp2
  go_loopw [5] (fun t wr => ∃ k : Nat, k ≤ len ∧ t = .int .i64 ((k : Int) - 1) ∧ Hid (∀ j, k ≤ j → j < len → sameB r (N j) name = false) ∧ Hid (∃ m, wr = w.drewN m)) (fun t _ => (intOf t + 1).toNat)
  case atStart => exact ⟨len, Nat.le_refl _, rfl, fun j h1 h2 => by omega, 0, rfl⟩
  case round =>
    obtain ⟨k, hk, rfl, hall, hm⟩ := hrel
    match k, hk, hall with
    | 0, hk, hall =>
      go_wp2
      go_ret
      exact ⟨ret_int (lastF_none _ len fun j hj => hall.out j (Nat.zero_le _) hj).symm, hm.out⟩
    | k + 1, hk, hall =>
      have ek : ((k + 1 : Nat) : Int) - 1 = (k : Int) := by omega
      rw [ek]
      clear ek
      obtain ⟨hsz, bf, off, rfl, hc0, v, hc1⟩ := HF.out k (by omega)
      have g0 : wr.cell? ⟨b, o, none⟩ = some (.slice (some ⟨bf, off, none⟩) len cap) := by obtain ⟨m, e⟩ := hm.out; rw [e]; exact h0
      have g2 : wr.cell? ⟨b, o + 2, none⟩ = some (.int .u8 r) := by obtain ⟨m, e⟩ := hm.out; rw [e]; exact h2
      have gn : wr.cell? ⟨bf, off + k * 2, none⟩ = some (.string (N k)) := by obtain ⟨m, e⟩ := hm.out; rw [e]; exact hc0
      have Hh : Hid (w.cell? ⟨b, o, none⟩ = some (.slice (some ⟨bf, off, none⟩) len cap) ∧ w.cell? ⟨b, o + 2, none⟩ = some (.int .u8 r)) := ⟨h0, h2⟩
      clear h0 h2 hc0 hc1
      have hk' : (k : Int) < (len : Int) := by omega
      go_wp2
      go_quiet ((go_at_call 35; exact Calls.quiet_of (same_any _ _ _ _ hsz hn)))
      cases hsame : sameB r (N k) name
      · have Hsame : Hid (sameB r (N k) name = false) := hsame
        clear hsame
        go_wp2
        go_roundw
        case rel =>
          refine ⟨k, by omega, rfl, ?_, ?_⟩
          · intro j hj hjl
            by_cases e : j = k
            · subst e; exact Hsame.out
            · exact hall.out j (by omega) hjl
          · obtain ⟨m, rfl⟩ := hm.out
            exact ⟨m + nq, by simp⟩
        case measure => simp [intOf]
      · have Hsame : Hid (sameB r (N k) name = true) := hsame
        clear hsame
        go_wp2
        go_ret
        refine ⟨ret_int (lastF_hit _ k Hsame.out len (by omega) fun j h1 h2 => hall.out j (by omega) h2).symm, ?_⟩
        obtain ⟨m, rfl⟩ := hm.out
        exact ⟨m + nq, by simp⟩

set_option maxHeartbeats 400000 in
theorem zzLast_any (b o : Nat) (r : Int) (ao : Option Addr) (len cap : Nat) (N : Nat → ByteArray) (name : ByteArray) (w : World) (hF : Flds w ao len N) (hlen : len ≤ maxLen) (hn : name.size ≤ maxLen)
    (h0 : w.cell? ⟨b, o, none⟩ = some (.slice ao len cap)) (h2 : w.cell? ⟨b, o + 2, none⟩ = some (.int .u8 r)) :
    Calls Try.prog 21 #[.pointer (some ⟨b, o, none⟩), .string name] w fun e w' => e = .returned (.int .i64 (lastF (fun i => sameB r (N i) name) len)) ∧ ∃ m, w' = w.drewN m := by
  have HF : Hid (Flds w ao len N) := hF
  clear hF
  go_enter Try.func21, Try.ntmps21
  go_wp2_with (go_at_call 32; refine (last_any b o r ao len cap N name w HF.out hlen hn h0 h2).mono ?_; rintro e w1 ⟨rfl, m, rfl⟩)
  go_ret
  exact ⟨rfl, m, rfl⟩

end Go.Proofs.Qxb6001745a
