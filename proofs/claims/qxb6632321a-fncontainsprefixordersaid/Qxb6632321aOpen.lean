import Derived.Test.Qxb6632321aBase
namespace Go.Proofs.Qxb6632321a
open Go.ChangeShapes Go.WideShapes Go.ChangeAt Go.RowKit

theorem Try.cells9 : Try.prog.cellsOf 9 = 1 := by kernel_rfl

section
variable {H : Type} {enc : TypeId × Value → H} {W : World}
/-- A slice of strings that came in, opened. -/
theorem strs_open {a : Option Addr} {len cap : Nat} {d : DataW H} {p : List MemPlace} (h : DataW.Trod enc Try.prog W 0 (fun _ => true) true 22 (.slice a len cap) d p) :
    ∃ S : Nat → ByteArray, (a = none → len = 0 ∧ cap = 0) ∧ StrsAt W a len S ∧ len ≤ maxLen := by
  obtain ⟨fuel, hf⟩ := h
  rcases open_strings Try.underlying22 Try.underlying9 Try.cells9 hf with ⟨hcs, _⟩ | ⟨x, l, c, ss, hcs, _, hl, hm, hz, _, hcell, _⟩
  · simp [Value.cells] at hcs
    obtain ⟨rfl, rfl, rfl⟩ := hcs
    exact ⟨fun _ => ByteArray.empty, fun _ => ⟨rfl, rfl⟩, fun i hi => absurd hi (by omega), Nat.zero_le _⟩
  · simp [Value.cells] at hcs
    obtain ⟨rfl, rfl, rfl⟩ := hcs
    simp only [if_true] at hz
    refine ⟨fun i => ss.getD i ByteArray.empty, fun h => (by cases h), fun i hi => ?_, by omega⟩
    obtain ⟨b, off, spot⟩ := x
    have hc := hcell i (by omega)
    have hs : spot = none := by simpa [Addr.add] using World.cell?_spot (hcell 0 (by omega))
    subst hs
    rw [add_plain] at hc
    exact ⟨b, off, rfl, hc, World.block_lt_of_cell? _ _ hc⟩
end
end Go.Proofs.Qxb6632321a
