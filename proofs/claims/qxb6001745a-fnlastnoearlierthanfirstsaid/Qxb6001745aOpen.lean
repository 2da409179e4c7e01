import Derived.Test.Qxb6001745aBytes
import Derived.ProofKit
import Derived.OpenShut
import Derived.ShutString
import Derived.ChangeOld
import Derived.Deep.Strs
namespace Go.Proofs.Qxb6001745a
open Go.ChangeShapes Go.WideShapes Go.ChangeAt Go.RowKit Go.Deep
set_option linter.unusedVariables false

theorem own : ownKnob Try.prog.godebug = none := by kernel_rfl
theorem laidOut : laidOutB Try.prog = true := by kernel_rfl

theorem strs_of {W : World} {len m : Nat} {a : Addr} {Sx : Nat → ByteArray} (hm : len ≤ m) (h : ∀ i, i < m → W.cell? (a.add i) = some (.string (Sx i)) ∧ (Sx i).size ≤ maxLen) : Strs W (some a) len Sx := by
  intro i hi
  obtain ⟨hc, hs⟩ := h i (by omega)
  refine ⟨hs, a.block, a.off, ?_⟩
  obtain ⟨b, off, spot⟩ := a
  have hspot : spot = none := by
    have := World.cell?_spot (h 0 (by omega)).1
    simpa [Addr.add] using this
  subst hspot
  refine ⟨rfl, ?_⟩
  have e : (⟨b, off, none⟩ : Addr).add i = ⟨b, off + i, none⟩ := by unfold Addr.add; split <;> simp_all
  rw [e] at hc
  exact hc

/-- A slice of strings that came in, opened. -/
theorem open_names {H : Type} {enc : TypeId × Value → H} {W : World} {a : Option Addr} {len cap : Nat} {d : DataW H} {p : List MemPlace}
    (h : DataW.Trod enc Try.prog W 0 (fun _ => true) true 22 (.slice a len cap) d p) : ∃ N, len ≤ maxLen ∧ Strs W a len N := by
  obtain ⟨fuel, hf⟩ := h
  rcases open_strs Try.underlying22 Try.underlying9 (by kernel_rfl) hf with ⟨hcs, _⟩ | ⟨x, l, c, m, Sx, hcs, _, hl, hm, hmm, _, hcell⟩
  · simp [Value.cells] at hcs
    obtain ⟨rfl, rfl, rfl⟩ := hcs
    exact ⟨fun _ => ByteArray.empty, Nat.zero_le _, fun i hi => absurd hi (Nat.not_lt_zero i)⟩
  · simp [Value.cells] at hcs
    obtain ⟨rfl, rfl, rfl⟩ := hcs
    exact ⟨Sx, Nat.le_trans hl hm, strs_of (by rw [hmm]; split <;> omega) hcell⟩

end Go.Proofs.Qxb6001745a
