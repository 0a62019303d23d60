import Derived.Test.Qxb6632220aLeaf
namespace Go.Proofs.Qxb6632220a
open Go.ChangeShapes Go.WideShapes Go.ChangeAt Go.RowKit

theorem Try.cellsOf5 : Try.prog.cellsOf 5 = 1 := by kernel_rfl
theorem Try.cellsOf22 : Try.prog.cellsOf 22 = 32 := by kernel_rfl

section
variable {H : Type} {enc : TypeId × Value → H} {W : World}

/-- An address that came in, opened. -/
theorem addr_open {r : Reach} {b0 : Nat} {v : Value} {d : DataW H} {p : List MemPlace} (hv : Value.okWide Try.prog W r b0 22 v) (h : DataW.Trod enc Try.prog W 0 (fun _ => true) true 22 v d p) :
    ∃ A : Nat → Nat, v = .agg (adr A) ∧ ∀ i, i < 32 → A i < 256 := by
  unfold Value.okWide at hv
  rw [Try.underlying22] at hv
  obtain ⟨cs, rfl, hs, _⟩ := hv
  rw [Try.cellsOf22] at hs
  obtain ⟨fuel, hf⟩ := h
  obtain ⟨xs, m, _, _, _, hx, hel⟩ := DataW.trod_array Try.underlying22 hf
  have key : ∀ i, i < 32 → ∃ n : Int, cs[i]? = some (.int .u8 n) ∧ 0 ≤ n ∧ n ≤ 255 := fun i hi => by
    have he := hel i hi
    rw [Try.cellsOf5, List.getElem?_eq_getElem (by omega)] at he
    obtain ⟨n, hn, _, hw⟩ := DataW.trod_int Try.underlying5 he
    have hb := bounds_u8 hw
    refine ⟨n, ?_, by omega, by omega⟩
    have : ((cs.toList.drop (i * 1)).take 1)[0]? = some (.int .u8 n) := by
      have e : (Value.agg cs).cells.toList = cs.toList := rfl
      rw [e] at hn
      rw [hn]; rfl
    simpa using this
  refine ⟨fun i => (intOf (cs.getD i (.int .u8 0))).toNat, ?_, fun i hi => ?_⟩
  · congr 1
    apply Array.ext_getElem?
    intro i
    by_cases hi : i < 32
    · obtain ⟨n, hn, h0, h1⟩ := key i hi
      rw [adr_get _ hi, hn]
      simp [hn, intOf]
      omega
    · rw [Array.getElem?_eq_none (by omega), Array.getElem?_eq_none (by rw [adr_size]; omega)]
  · obtain ⟨n, hn, h0, h1⟩ := key i hi
    simp [hn, intOf]
    omega
end
end Go.Proofs.Qxb6632220a
