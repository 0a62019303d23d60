import Derived.Test.Qxb6631289aMid
namespace Go.Proofs.Qxb6631289a
open Go.ChangeShapes Go.WideShapes Go.ChangeAt Go.RowKit

theorem Try.cells3 : Try.prog.cellsOf 3 = 1 := by kernel_rfl
theorem Try.cells45 : Try.prog.cellsOf 45 = 2 := by kernel_rfl

section
variable {H : Type} {enc : TypeId × Value → H} {W : World}

/-- A slice of ints that came in, opened. -/
theorem ints_open {a : Option Addr} {len cap : Nat} {d : DataW H} {p : List MemPlace} (h : DataW.Trod enc Try.prog W 0 (fun _ => true) true 22 (.slice a len cap) d p) :
    ∃ Z : Nat → Int, (a = none → len = 0 ∧ cap = 0) ∧ IntsIn W a len Z ∧ len ≤ maxLen := by
  obtain ⟨fuel, hf⟩ := h
  rcases open_ints Try.underlying22 Try.underlying3 Try.cells3 hf with ⟨hcs, _⟩ | ⟨x, l, c, zs, hcs, _, hl, hm, hz, _, hcell, _⟩
  · simp [Value.cells] at hcs
    obtain ⟨rfl, rfl, rfl⟩ := hcs
    exact ⟨fun _ => 0, fun _ => ⟨rfl, rfl⟩, fun i hi => absurd hi (by omega), Nat.zero_le _⟩
  · simp [Value.cells] at hcs
    obtain ⟨rfl, rfl, rfl⟩ := hcs
    simp only [if_true] at hz
    refine ⟨fun i => zs.getD i 0, fun h => (by cases h), fun i hi => ?_, by omega⟩
    obtain ⟨b, off, spot⟩ := x
    have hc := hcell i (by omega)
    have hs : spot = none := by simpa [Addr.add] using World.cell?_spot (hcell 0 (by omega))
    subst hs
    rw [add_plain] at hc
    exact ⟨b, off, rfl, hc, World.block_lt_of_cell? _ _ hc⟩

/-- A slice of pairs that came in, opened. -/
theorem pairs_open {a : Option Addr} {len cap : Nat} {d : DataW H} {p : List MemPlace} (h : DataW.Trod enc Try.prog W 0 (fun _ => true) true 23 (.slice a len cap) d p) :
    ∃ T C : Nat → Int, (a = none → len = 0 ∧ cap = 0) ∧ PairsAt W a len T C ∧ len ≤ maxLen := by
  obtain ⟨fuel, hf⟩ := h
  rcases Deep.open_slice_pairs Try.underlying23 Try.underlying45 Try.cells45 rfl rfl Try.cells3 Try.cells3 hf with ⟨hcs, _⟩ | ⟨x, l, c, m, n, V0, V1, D0, D1, P0, P1, hcs, _, hl, hm, hmm, _, hx⟩
  · simp [Value.cells] at hcs
    obtain ⟨rfl, rfl, rfl⟩ := hcs
    exact ⟨fun _ => 0, fun _ => 0, fun _ => ⟨rfl, rfl⟩, fun i hi => absurd hi (by omega), Nat.zero_le _⟩
  · simp [Value.cells] at hcs
    obtain ⟨rfl, rfl, rfl⟩ := hcs
    simp only [if_true] at hmm
    refine ⟨fun i => intOf (V0 i), fun i => intOf (V1 i), fun h => (by cases h), fun i hi => ?_, by omega⟩
    obtain ⟨b, off, spot⟩ := x
    obtain ⟨c0, _, _, _⟩ := hx 0 (by omega)
    have hs : spot = none := by simpa [Addr.add] using World.cell?_spot c0
    subst hs
    obtain ⟨e0, e1, t0, t1⟩ := hx i (by omega)
    rw [add_plain] at e0 e1
    obtain ⟨y0, g0, _, _⟩ := DataW.trod_int Try.underlying3 t0
    obtain ⟨y1, g1, _, _⟩ := DataW.trod_int Try.underlying3 t1
    injection g0 with g0
    injection g1 with g1
    rw [g0] at e0
    rw [g1] at e1
    refine ⟨b, off, rfl, ?_, ?_, World.block_lt_of_cell? _ _ e0⟩
    · show _ = some (Value.int .i64 (intOf (V0 i))); rw [g0]; exact e0
    · show _ = some (Value.int .i64 (intOf (V1 i))); rw [g1]; exact e1
end
end Go.Proofs.Qxb6631289a
