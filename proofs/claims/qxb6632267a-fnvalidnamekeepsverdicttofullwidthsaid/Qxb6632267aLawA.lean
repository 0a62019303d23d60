import Derived.Test.Qxb6632267aCount
namespace Go.Proofs.Qxb6632267a
open Go.ChangeShapes Go.WideShapes Go.ChangeAt Go.RowKit
set_option linter.unusedSimpArgs false
set_option linter.unusedVariables false

theorem ext_size (s : ByteArray) (a b : Nat) (h : b ≤ s.size) : (s.extract a b).size = b - a := by rw [ByteArray.size_extract]; omega
theorem ext_get (s : ByteArray) (a b i : Nat) (h : i < (s.extract a b).size) (h' : a + i < s.size) : (s.extract a b)[i]'h = s[a + i]'h' := ByteArray.getElem_extract ..

/-- A name splits at any cut. -/
theorem vn_split (s : ByteArray) (n : Nat) (hn : n ≤ s.size) : VN s ↔ (1 ≤ s.size ∧ s.size ≤ 64) ∧ (n = 0 ∨ VN (s.extract 0 n)) ∧ (n = s.size ∨ VN (s.extract n s.size)) := by
  have z1 := ext_size s 0 n hn
  have z2 := ext_size s n s.size (Nat.le_refl _)
  constructor
  · intro ⟨h1, h2, h3⟩
    refine ⟨⟨h1, h2⟩, ?_, ?_⟩
    · by_cases e : n = 0
      · exact .inl e
      · refine .inr ⟨by omega, by omega, fun i hi => ?_⟩
        rw [ext_get s 0 n i hi (by omega)]
        exact h3 _ _
    · by_cases e : n = s.size
      · exact .inl e
      · refine .inr ⟨by omega, by omega, fun i hi => ?_⟩
        rw [ext_get s n s.size i hi (by omega)]
        exact h3 _ _
  · intro ⟨⟨h1, h2⟩, h3, h4⟩
    refine ⟨h1, h2, fun i hi => ?_⟩
    by_cases e : i < n
    · have h3 := h3.resolve_left (by omega)
      have := h3.2.2 i (by omega)
      rw [ext_get s 0 n i (by omega) (by omega)] at this
      simpa using this
    · have h4 := h4.resolve_left (by omega)
      have := h4.2.2 (i - n) (by omega)
      rw [ext_get s n s.size (i - n) (by omega) (by omega)] at this
      have e2 : n + (i - n) = i := by omega
      simpa [e2] using this

theorem want_whole {s : ByteArray} {b1 b3 : Bool} (h : b1 = true ↔ VN s) (h3 : b3 = true ↔ VN s) : b1 = (decide (1 ≤ s.size) && decide (s.size ≤ 64) && true && b3) := by
  rw [Bool.eq_iff_iff, h]
  simp only [Bool.and_eq_true, decide_eq_true_eq, h3]
  exact ⟨fun q => ⟨⟨⟨q.1, q.2.1⟩, trivial⟩, q⟩, fun q => q.2⟩
theorem want_is {s : ByteArray} {n : Nat} {b1 b2 b3 : Bool} (h : b1 = true ↔ (1 ≤ s.size ∧ s.size ≤ 64) ∧ (n = 0 ∨ VN (s.extract 0 n)) ∧ (n = s.size ∨ VN (s.extract n s.size)))
    (h2 : b2 = true ↔ (n = 0 ∨ VN (s.extract 0 n))) (h3 : b3 = true ↔ (n = s.size ∨ VN (s.extract n s.size))) : b1 = (decide (1 ≤ s.size) && decide (s.size ≤ 64) && b2 && b3) := by
  rw [Bool.eq_iff_iff, h, ← h2, ← h3]
  simp [and_assoc]

set_option maxRecDepth 100000 in
set_option maxHeartbeats 4000000 in
theorem law1 (s : ByteArray) (i : Int) (hs : s.size ≤ maxLen) (w : World) :
    Calls Try.prog 3 #[.string s, .int .i64 i] w fun e w' => e = .returned (.bool true) ∧ Below w.heap.size w w' := by
  go_enter Try.func3, Try.ntmps3
  go_wp2_with fail
  refine (bytes5_any s i hs _).mono ?_
  rintro e w' ⟨⟨b, rfl⟩, rfl⟩
  unfold maxLen at hs
  cases b with
  | false =>
    go_wp2
    go_ret
    exact ⟨rfl, Below.refl _ _⟩
  | true =>
  by_cases hbig : s.size ≤ 1048576
  case neg =>
    go_wp2
    go_ret
    exact ⟨rfl, Below.refl _ _⟩
  by_cases h0 : i < 0
  · go_wp2
    go_ret
    exact ⟨rfl, Below.refl _ _⟩
  by_cases h1 : (s.size : Int) < i
  · have d0 : decide (i < 0) = false := decide_eq_false h0
    go_wp2
    go_ret
    exact ⟨rfl, Below.refl _ _⟩
  obtain ⟨n, rfl⟩ := Int.eq_ofNat_of_zero_le (show 0 ≤ i by omega)
  have hn : n ≤ s.size := by omega
  have hsp := vn_split s n hn
  have d0 : decide ((n : Int) < 0) = false := decide_eq_false h0
  have d1 : decide ((s.size : Int) < (n : Int)) = false := decide_eq_false h1
  clear hs h0 h1
  go_wp2_with fail
  refine (name_any s (by omega) _).mono ?_
  rintro e w1 ⟨⟨b1, rfl, hb1⟩, bel1⟩
  have HB0 : Hid (b1 = true ↔ VN s) := hb1
  rw [hsp] at hb1
  clear hsp
  have HB1 : Hid _ := hb1
  clear hb1
  have dbig : decide ((1048576 : Int) < (s.size : Int)) = false := decide_eq_false (by omega)
  by_cases z0 : n = 0
  · subst z0
    by_cases zs : s.size = 0
    · have e1 : b1 = false := by
        cases b1 with
        | false => rfl
        | true => (have := (HB1.out.1 rfl).1.1; omega)
      subst e1
      clear HB1
      go_wp2_with fail
      refine (single_any _).mono ?_
      rintro e wz ⟨rfl, belz⟩
      go_wp2
      go_ret
      exact ⟨rfl, bel1.trans (belz.mono bel1.size)⟩
    · have f1 : ((0 : Int) == (s.size : Int)) = false := by rw [beq_eq_false_iff_ne]; omega
      go_wp2_with fail
      refine (name_any s (by omega) _).mono ?_
      rintro e w2 ⟨⟨b3, rfl, hb3⟩, bel2⟩
      have bel2 := bel1.trans (bel2.mono bel1.size)
      clear bel1
      have HW : Hid (b1 = (decide (1 ≤ s.size) && decide (s.size ≤ 64) && true && b3)) := want_whole HB0.out hb3
      clear HB1 HB0 hb3
      by_cases c1 : 1 ≤ s.size
      · have g1 : decide ((1 : Int) ≤ (s.size : Int)) = true := decide_eq_true (by omega)
        by_cases c2 : s.size ≤ 64
        · have g2 : decide ((s.size : Int) ≤ 64) = true := decide_eq_true (by omega)
          have e1 := HW.out
          rw [decide_eq_true c1, decide_eq_true c2] at e1
          clear HW
          cases b3
          all_goals
            simp only [Bool.true_and, Bool.and_true, Bool.and_false, Bool.false_and] at e1
            subst e1
            go_wp2_with fail
            refine (single_any _).mono ?_
            rintro e wz ⟨rfl, belz⟩
            go_wp2
            go_ret
            exact ⟨rfl, bel2.trans (belz.mono bel2.size)⟩
        · have g2 : decide ((s.size : Int) ≤ 64) = false := decide_eq_false (by omega)
          have e1 := HW.out
          rw [decide_eq_false c2] at e1
          simp only [Bool.and_false, Bool.false_and] at e1
          clear HW
          subst e1
          go_wp2_with fail
          refine (single_any _).mono ?_
          rintro e wz ⟨rfl, belz⟩
          go_wp2
          go_ret
          exact ⟨rfl, bel2.trans (belz.mono bel2.size)⟩
      · have g1 : decide ((1 : Int) ≤ (s.size : Int)) = false := decide_eq_false (by omega)
        have e1 := HW.out
        rw [decide_eq_false c1] at e1
        simp only [Bool.false_and] at e1
        clear HW
        subst e1
        go_wp2_with fail
        refine (single_any _).mono ?_
        rintro e wz ⟨rfl, belz⟩
        go_wp2
        go_ret
        exact ⟨rfl, bel2.trans (belz.mono bel2.size)⟩
  · have f0 : ((n : Int) == 0) = false := by rw [beq_eq_false_iff_ne]; omega
    go_wp2_with fail
    refine (name_any (s.extract 0 n) (by rw [ext_size s 0 n hn]; omega) _).mono ?_
    rintro e w2 ⟨⟨b2, rfl, hb2⟩, bel2⟩
    have bel2 := bel1.trans (bel2.mono bel1.size)
    clear bel1
    have hb2' : b2 = true ↔ (n = 0 ∨ VN (s.extract 0 n)) := by
      rw [hb2]
      exact ⟨fun h => .inr h, fun h => h.resolve_left z0⟩
    have HB2 : Hid _ := hb2'
    clear hb2 hb2'
    by_cases zs : n = s.size
    · have f1 : ((n : Int) == (s.size : Int)) = true := by rw [beq_iff_eq]; omega
      have HW : Hid (b1 = (decide (1 ≤ s.size) && decide (s.size ≤ 64) && b2 && true)) := want_is HB1.out HB2.out ⟨fun _ => .inl zs, fun _ => rfl⟩
      have HZ : Hid _ := zs
      clear HB1 HB2 zs
      by_cases c1 : 1 ≤ s.size
      · have g1 : decide ((1 : Int) ≤ (s.size : Int)) = true := decide_eq_true (by omega)
        by_cases c2 : s.size ≤ 64
        · have g2 : decide ((s.size : Int) ≤ 64) = true := decide_eq_true (by omega)
          have e1 := HW.out
          rw [decide_eq_true c1, decide_eq_true c2] at e1
          clear HW
          cases b2
          all_goals
            simp only [Bool.true_and, Bool.and_true, Bool.and_false, Bool.false_and] at e1
            subst e1
            go_wp2_with fail
            refine (single_any _).mono ?_
            rintro e wz ⟨rfl, belz⟩
            go_wp2
            go_ret
            exact ⟨rfl, bel2.trans (belz.mono bel2.size)⟩
        · have g2 : decide ((s.size : Int) ≤ 64) = false := decide_eq_false (by omega)
          have e1 := HW.out
          rw [decide_eq_false c2] at e1
          simp only [Bool.and_false, Bool.false_and] at e1
          clear HW
          subst e1
          go_wp2_with fail
          refine (single_any _).mono ?_
          rintro e wz ⟨rfl, belz⟩
          go_wp2
          go_ret
          exact ⟨rfl, bel2.trans (belz.mono bel2.size)⟩
      · have g1 : decide ((1 : Int) ≤ (s.size : Int)) = false := decide_eq_false (by omega)
        have e1 := HW.out
        rw [decide_eq_false c1] at e1
        simp only [Bool.false_and] at e1
        clear HW
        subst e1
        go_wp2_with fail
        refine (single_any _).mono ?_
        rintro e wz ⟨rfl, belz⟩
        go_wp2
        go_ret
        exact ⟨rfl, bel2.trans (belz.mono bel2.size)⟩
    · have f1 : ((n : Int) == (s.size : Int)) = false := by rw [beq_eq_false_iff_ne]; omega
      go_wp2_with fail
      refine (name_any (s.extract n s.size) (by rw [ext_size s n s.size (Nat.le_refl _)]; omega) _).mono ?_
      rintro e w3 ⟨⟨b3, rfl, hb3⟩, bel3⟩
      have bel3 := bel2.trans (bel3.mono bel2.size)
      clear bel2
      have HW : Hid (b1 = (decide (1 ≤ s.size) && decide (s.size ≤ 64) && b2 && b3)) := want_is HB1.out HB2.out (by
        rw [hb3]
        exact ⟨fun h => .inr h, fun h => h.resolve_left zs⟩)
      clear HB1 HB2 hb3
      by_cases c1 : 1 ≤ s.size
      · have g1 : decide ((1 : Int) ≤ (s.size : Int)) = true := decide_eq_true (by omega)
        by_cases c2 : s.size ≤ 64
        · have g2 : decide ((s.size : Int) ≤ 64) = true := decide_eq_true (by omega)
          have e1 := HW.out
          rw [decide_eq_true c1, decide_eq_true c2] at e1
          clear HW
          cases b2 <;> cases b3
          all_goals
            simp only [Bool.true_and, Bool.and_true, Bool.and_false, Bool.false_and] at e1
            subst e1
            go_wp2_with fail
            refine (single_any _).mono ?_
            rintro e wz ⟨rfl, belz⟩
            go_wp2
            go_ret
            exact ⟨rfl, bel3.trans (belz.mono bel3.size)⟩
        · have g2 : decide ((s.size : Int) ≤ 64) = false := decide_eq_false (by omega)
          have e1 := HW.out
          rw [decide_eq_false c2] at e1
          simp only [Bool.and_false, Bool.false_and] at e1
          clear HW
          subst e1
          go_wp2_with fail
          refine (single_any _).mono ?_
          rintro e wz ⟨rfl, belz⟩
          go_wp2
          go_ret
          exact ⟨rfl, bel3.trans (belz.mono bel3.size)⟩
      · have g1 : decide ((1 : Int) ≤ (s.size : Int)) = false := decide_eq_false (by omega)
        have e1 := HW.out
        rw [decide_eq_false c1] at e1
        simp only [Bool.false_and] at e1
        clear HW
        subst e1
        go_wp2_with fail
        refine (single_any _).mono ?_
        rintro e wz ⟨rfl, belz⟩
        go_wp2
        go_ret
        exact ⟨rfl, bel3.trans (belz.mono bel3.size)⟩
end Go.Proofs.Qxb6632267a
