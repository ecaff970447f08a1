/- A []string that came in, as the walks want it. -/
import Derived.Test.Qxb6001311aOrder
import Derived.ProofKit
import Derived.SliceStrings
import Derived.OpenShut
import Derived.ShutString
import Derived.Below
namespace Go.Proofs.Qxb6001311a
open Go.ChangeShapes Go.WideShapes Go.ChangeAt Go.RowKit

theorem ownK : ownKnob Try.prog.godebug = none := by kernel_rfl
theorem laidOutK : laidOutB Try.prog = true := by kernel_rfl
theorem cells9 : Try.prog.cellsOf 9 = 1 := by kernel_rfl

theorem open_keys {H : Type} {enc : TypeId × Value → H} {W : World} {a0 : Option Addr} {len cap : Nat} {d : DataW H} {ps : List MemPlace}
    (h : DataW.Trod enc Try.prog W 0 (fun _ => true) true 22 (.slice a0 len cap) d ps) :
    ∃ (b off : Nat) (Xs : List ByteArray), Xs.length = len ∧ KeysAt W a0 b off Xs ∧ (∀ X ∈ Xs, X.size ≤ maxLen) ∧ Xs.length ≤ maxLen := by
  obtain ⟨fuel, hf⟩ := h
  rcases open_strings Try.underlying22 Try.underlying9 cells9 hf with ⟨hcs, _⟩ | ⟨a, len', cap', ss, hcs, _, hl, hm, hz, _, hcell, hws⟩
  · simp [Value.cells] at hcs
    obtain ⟨rfl, rfl, rfl⟩ := hcs
    exact ⟨0, 0, [], rfl, ⟨fun h => by simp at h, fun j X h => by simp at h⟩, (fun X h => by simp at h), Nat.zero_le _⟩
  · simp [Value.cells] at hcs
    obtain ⟨rfl, rfl, rfl⟩ := hcs
    simp only [if_true] at hz
    obtain ⟨b, off, spot⟩ := a
    have hsp : 0 < len → spot = none := fun h0 => by simpa [Addr.add] using World.cell?_spot (hcell 0 (by omega))
    refine ⟨b, off, ss.take len, by simp; omega, ⟨fun h0 => ?_, fun j X hX => ?_⟩, fun X hX => hws X (List.mem_of_mem_take hX), by simp; omega⟩
    · have h0' : 0 < len := by simp at h0; omega
      have := hsp h0'
      subst this
      refine ⟨rfl, ?_⟩
      have hc := hcell 0 (by omega)
      have := World.block_lt_of_cell? W _ hc
      simpa [Addr.add] using this
    · have hj : j < len := by
        have := (List.getElem?_eq_some_iff.1 hX).1
        simp at this
        omega
      have := hsp (by omega)
      subst this
      have hX' : ss.getD j ByteArray.empty = X := by
        rw [List.getElem?_take_of_lt hj] at hX
        simp [List.getD, hX]
      have hc := hcell j (by omega)
      rw [hX', Addr.add_lit] at hc
      exact hc
end Go.Proofs.Qxb6001311a
