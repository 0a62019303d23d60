import Derived.Test.Qxb6632321aLawA
namespace Go.Proofs.Qxb6632321a
open Go.ChangeShapes Go.WideShapes Go.ChangeAt Go.RowKit
attribute [local go_sem] neq22
set_option linter.unusedSimpArgs false
set_option linter.unusedVariables false

/-- A slice that is nil, or a whole row. -/
def QAt (m : Nat) (a : Option Addr) (c : Nat) : Prop := (a = none ∧ m = 0 ∧ c = 0) ∨ (∃ g, a = some ⟨g, 0, none⟩ ∧ c = m)
theorem con_pre {k m : Nat} (T : Nat → ByteArray) (h : k ≤ m) : Con k T m T := ⟨h, fun _ _ => rfl⟩
theorem con_cut {k m : Nat} (T : Nat → ByteArray) (h : k ≤ m) : Con m T k T ↔ k = m := ⟨fun q => by have := q.1; omega, fun q => ⟨by omega, fun _ _ => rfl⟩⟩
theorem con_on {n k m : Nat} {S T : Nat → ByteArray} (h : k ≤ m) (q : Con n S k T) : Con n S m T := ⟨by have := q.1; omega, q.2⟩
theorem con_both {n m : Nat} {S T : Nat → ByteArray} (h : Con n S m T) : Con m T n S ↔ (n = m ∧ ∀ i, i < n → S i = T i) :=
  ⟨fun q => ⟨by have := h.1; have := q.1; omega, h.2⟩, fun q => ⟨by omega, fun i hi => (q.2 i (by omega)).symm⟩⟩
theorem not_eq {n m : Nat} {S T : Nat → ByteArray} (h : ¬ Con n S m T) : ¬ (n = m ∧ ∀ i, i < n → S i = T i) := fun q => h ⟨by omega, q.2⟩

set_option maxRecDepth 100000 in
set_option maxHeartbeats 4000000 in
theorem law2 (a0 a1 : Option Addr) (n c0 m c1 : Nat) (x : Int) (S T : Nat → ByteArray) (hn : n ≤ maxLen) (hm : m ≤ maxLen) (w : World) (z0 : a0 = none → n = 0 ∧ c0 = 0) (z1 : a1 = none → m = 0 ∧ c1 = 0)
    (h0 : StrsAt w a0 n S) (h1 : StrsAt w a1 m T) :
    Calls Try.prog 4 #[.slice a0 n c0, .slice a1 m c1, .int .i64 x] w fun e w' => e = .returned (.bool true) ∧ Below w.heap.size w w' := by
  go_enter Try.func4, Try.ntmps4
  go_wp2_with fail
  refine (bytes9_any a0 a1 n c0 m c1 x S T hn hm w h0 h1).mono ?_
  rintro e w' ⟨⟨b, rfl⟩, rfl⟩
  unfold maxLen at hn hm
  cases b with
  | false =>
    go_wp2
    go_ret
    exact ⟨rfl, Below.refl _ _⟩
  | true =>
  by_cases q0 : n ≤ 65536
  case neg =>
    go_wp2
    go_ret
    exact ⟨rfl, Below.refl _ _⟩
  have d0 : decide ((65536 : Int) < (n : Int)) = false := decide_eq_false (by omega)
  by_cases q1 : m ≤ 65536
  case neg =>
    go_wp2
    go_ret
    exact ⟨rfl, Below.refl _ _⟩
  have d1 : decide ((65536 : Int) < (m : Int)) = false := decide_eq_false (by omega)
  clear hn hm
  go_upto_if 29 with (fail)
  go_cut [0] from 15 to 107 (fun v wc => ∃ a c, v = .slice a n c ∧ StrsAt wc a n S ∧ Below w'.heap.size w' wc)
  case first =>
    cases a0 with
    | none =>
      obtain ⟨rfl, rfl⟩ := z0 rfl
      go_wp2
      go_meet
      case rel => exact ⟨_, _, rfl, h0, Below.refl _ _⟩
    | some ad =>
      have hmk := run_make_row' (P := Try.prog) 22 9 (.string ByteArray.empty) 16 Try.underlying22 Try.info9 rfl .i64 .i64 n (by omega) (by omega)
      go_wp2_with (refine copy_strs w' rfl (.tmp 33) (.tmp 34) rfl n c0 (some ad) S rfl rfl h0 ?_; intro w2 hrow hb2)
      go_meet
      case rel => exact ⟨_, _, rfl, row_at hrow.out, hb2⟩
  case rest =>
  obtain ⟨p0, e0, rfl, g0, bel0⟩ := hcut
  have j1 := h1.below bel0
  clear h0 z0 h1
  obtain ⟨wA, hwA⟩ : ∃ wA, wA = wc := ⟨_, rfl⟩
  subst hwA
  go_upto_if 38 with (fail)
  go_cut [1] from 15 to 107 (fun v wc => ∃ a c, v = .slice a m c ∧ StrsAt wc a m T ∧ QAt m a c ∧ Below wA.heap.size wA wc)
  case first =>
    cases a1 with
    | none =>
      obtain ⟨rfl, rfl⟩ := z1 rfl
      go_wp2
      go_meet
      case rel => exact ⟨_, _, rfl, j1, .inl ⟨rfl, rfl, rfl⟩, Below.refl _ _⟩
    | some ad =>
      have hmk := run_make_row' (P := Try.prog) 22 9 (.string ByteArray.empty) 16 Try.underlying22 Try.info9 rfl .i64 .i64 m (by omega) (by omega)
      go_wp2_with (refine copy_strs wA rfl (.tmp 42) (.tmp 43) rfl m c1 (some ad) T rfl rfl j1 ?_; intro w2 hrow hb2)
      go_meet
      case rel => exact ⟨_, _, rfl, row_at hrow.out, .inr ⟨_, rfl, rfl⟩, hb2⟩
  case rest =>
  obtain ⟨p1, e1, rfl, g1, hp1, bel1⟩ := hcut
  have g0 := g0.below bel1
  have bel1 := bel0.trans (bel1.mono bel0.size)
  clear bel0 j1 z1
  go_wp2_with fail
  refine (size_int p0 n e0 _ S q0 (by omega) (by omega) _ g0).mono ?_
  rintro e wx ⟨⟨r0, hr0, rfl⟩, rfl⟩
  by_cases k0 : r0 ≤ 1048576
  case neg =>
    go_wp2
    go_ret
    exact ⟨rfl, bel1⟩
  go_wp2_with fail
  refine (size_int p1 m e1 _ T q1 (by omega) (by omega) _ g1).mono ?_
  rintro e wx ⟨⟨r1, hr1, rfl⟩, rfl⟩
  by_cases k1 : r1 ≤ 1048576 - r0
  case neg =>
    go_wp2
    go_ret
    exact ⟨rfl, bel1⟩
  by_cases x0 : x < 0
  · go_wp2
    go_ret
    exact ⟨rfl, bel1⟩
  have dx : decide (x < 0) = false := decide_eq_false x0
  by_cases x1 : (m : Int) < x
  · go_wp2
    go_ret
    exact ⟨rfl, bel1⟩
  obtain ⟨k, rfl⟩ := Int.eq_ofNat_of_zero_le (show 0 ≤ x by omega)
  have dx1 : decide ((m : Int) < (k : Int)) = false := decide_eq_false x1
  have hkm : k ≤ m := by omega
  have gk : StrsAt _ p1 k T := fun i hi => g1 i (by omega)
  clear x0 x1
  rcases hp1 with ⟨rfl, rfl, rfl⟩ | ⟨g, rfl, rfl⟩
  · have hk0 : k = 0 := by omega
    subst hk0
    go_wp2_with fail
    refine (con_any _ _ 0 _ 0 _ T T (by omega) (by omega) _ gk g1).mono ?_
    rintro e wy ⟨⟨b1, rfl, hb1⟩, bely⟩
    have e1' : b1 = true := hb1.2 (con_pre T hkm)
    subst e1'
    clear hb1
    have g0 := g0.below bely
    have g1 := g1.below bely
    have gk := gk.below bely
    have bely := bel1.trans (bely.mono bel1.size)
    clear bel1
    go_wp2_with fail
    refine (con_any _ _ 0 _ 0 _ T T (by omega) (by omega) _ g1 gk).mono ?_
    rintro e w2 ⟨⟨b2, rfl, hb2⟩, bel2⟩
    rw [con_cut T hkm] at hb2
    have g0 := g0.below bel2
    have g1 := g1.below bel2
    have gk := gk.below bel2
    have bel2 := bely.trans (bel2.mono bely.size)
    clear bely
    have e2' : b2 = true := hb2.2 rfl
    subst e2'
    clear hb2
    go_wp2_with fail
    refine (con_any p0 _ n _ 0 _ S T (by omega) (by omega) _ g0 gk).mono ?_
    rintro e w3 ⟨⟨b3, rfl, hb3⟩, bel3⟩
    have g0 := g0.below bel3
    have g1 := g1.below bel3
    have bel3 := bel2.trans (bel3.mono bel2.size)
    clear bel2 gk
    cases b3 with
    | false =>
      clear hb3
      go_wp2_with fail
      refine (con_any p0 _ n _ 0 _ S T (by omega) (by omega) _ g0 g1).mono ?_
      rintro e w5 ⟨⟨b5, rfl, hb5⟩, bel5⟩
      have g0 := g0.below bel5
      have g1 := g1.below bel5
      have bel5 := bel3.trans (bel5.mono bel3.size)
      clear bel3
      cases b5 with
      | false =>
        have H5 : Hid _ := not_eq fun h => absurd (hb5.2 h) (by decide)
        clear hb5
        go_wp2_with fail
        refine (eq_any p0 _ n _ 0 _ S T (by omega) (by omega) _ g0 g1).mono ?_
        rintro e w7 ⟨⟨b7, rfl, hb7⟩, bel7⟩
        have e7 : b7 = false := by
          cases b7 with
          | false => rfl
          | true => exact absurd (hb7.1 rfl) H5.out
        subst e7
        clear hb7 H5
        have bel7 := bel5.trans (bel7.mono bel5.size)
        go_wp2
        go_ret
        exact ⟨rfl, bel7⟩
      | true =>
        have H5 : Hid _ := con_both (hb5.1 rfl)
        clear hb5
        go_wp2_with fail
        refine (con_any _ p0 0 _ n _ T S (by omega) (by omega) _ g1 g0).mono ?_
        rintro e w6 ⟨⟨b6, rfl, hb6⟩, bel6⟩
        rw [H5.out] at hb6
        have g0 := g0.below bel6
        have g1 := g1.below bel6
        have bel6 := bel5.trans (bel6.mono bel5.size)
        have H6 : Hid _ := hb6
        clear bel5 hb6 H5
        go_wp2_with fail
        refine (eq_any p0 _ n _ 0 _ S T (by omega) (by omega) _ g0 g1).mono ?_
        rintro e w7 ⟨⟨b7, rfl, hb7⟩, bel7⟩
        have e7 : b6 = b7 := by rw [Bool.eq_iff_iff, H6.out, hb7]
        subst e7
        clear hb7 H6
        have bel7 := bel6.trans (bel7.mono bel6.size)
        go_wp2
        go_ret
        exact ⟨by simp, bel7⟩
    | true =>
      have H3 : Hid _ := con_on hkm (hb3.1 rfl)
      clear hb3
      go_wp2_with fail
      refine (con_any p0 _ n _ 0 _ S T (by omega) (by omega) _ g0 g1).mono ?_
      rintro e w4 ⟨⟨b4, rfl, hb4⟩, bel4⟩
      have e4 : b4 = true := hb4.2 H3.out
      subst e4
      clear hb4 H3
      have g0 := g0.below bel4
      have g1 := g1.below bel4
      have bel4 := bel3.trans (bel4.mono bel3.size)
      clear bel3
      go_wp2_with fail
      refine (con_any p0 _ n _ 0 _ S T (by omega) (by omega) _ g0 g1).mono ?_
      rintro e w5 ⟨⟨b5, rfl, hb5⟩, bel5⟩
      have g0 := g0.below bel5
      have g1 := g1.below bel5
      have bel5 := bel4.trans (bel5.mono bel4.size)
      clear bel4
      cases b5 with
      | false =>
        have H5 : Hid _ := not_eq fun h => absurd (hb5.2 h) (by decide)
        clear hb5
        go_wp2_with fail
        refine (eq_any p0 _ n _ 0 _ S T (by omega) (by omega) _ g0 g1).mono ?_
        rintro e w7 ⟨⟨b7, rfl, hb7⟩, bel7⟩
        have e7 : b7 = false := by
          cases b7 with
          | false => rfl
          | true => exact absurd (hb7.1 rfl) H5.out
        subst e7
        clear hb7 H5
        have bel7 := bel5.trans (bel7.mono bel5.size)
        go_wp2
        go_ret
        exact ⟨rfl, bel7⟩
      | true =>
        have H5 : Hid _ := con_both (hb5.1 rfl)
        clear hb5
        go_wp2_with fail
        refine (con_any _ p0 0 _ n _ T S (by omega) (by omega) _ g1 g0).mono ?_
        rintro e w6 ⟨⟨b6, rfl, hb6⟩, bel6⟩
        rw [H5.out] at hb6
        have g0 := g0.below bel6
        have g1 := g1.below bel6
        have bel6 := bel5.trans (bel6.mono bel5.size)
        have H6 : Hid _ := hb6
        clear bel5 hb6 H5
        go_wp2_with fail
        refine (eq_any p0 _ n _ 0 _ S T (by omega) (by omega) _ g0 g1).mono ?_
        rintro e w7 ⟨⟨b7, rfl, hb7⟩, bel7⟩
        have e7 : b6 = b7 := by rw [Bool.eq_iff_iff, H6.out, hb7]
        subst e7
        clear hb7 H6
        have bel7 := bel6.trans (bel7.mono bel6.size)
        go_wp2
        go_ret
        exact ⟨by simp, bel7⟩
  · go_wp2_with fail
    refine (con_any _ _ k _ e1 _ T T (by omega) (by omega) _ gk g1).mono ?_
    rintro e wy ⟨⟨b1, rfl, hb1⟩, bely⟩
    have e1' : b1 = true := hb1.2 (con_pre T hkm)
    subst e1'
    clear hb1
    have g0 := g0.below bely
    have g1 := g1.below bely
    have gk := gk.below bely
    have bely := bel1.trans (bely.mono bel1.size)
    clear bel1
    go_wp2_with fail
    refine (con_any _ _ e1 _ k _ T T (by omega) (by omega) _ g1 gk).mono ?_
    rintro e w2 ⟨⟨b2, rfl, hb2⟩, bel2⟩
    rw [con_cut T hkm] at hb2
    have g0 := g0.below bel2
    have g1 := g1.below bel2
    have gk := gk.below bel2
    have bel2 := bely.trans (bel2.mono bely.size)
    clear bely
    by_cases hkm2 : k = e1
    · have e2' : b2 = true := hb2.2 hkm2
      subst e2'
      clear hb2
      have dk : ((k : Int) == (e1 : Int)) = true := by rw [beq_iff_eq]; omega
      have HK : Hid _ := hkm2
      clear hkm2
      go_wp2_with fail
      refine (con_any p0 _ n _ k _ S T (by omega) (by omega) _ g0 gk).mono ?_
      rintro e w3 ⟨⟨b3, rfl, hb3⟩, bel3⟩
      have g0 := g0.below bel3
      have g1 := g1.below bel3
      have bel3 := bel2.trans (bel3.mono bel2.size)
      clear bel2 gk
      cases b3 with
      | false =>
        clear hb3
        go_wp2_with fail
        refine (con_any p0 _ n _ e1 _ S T (by omega) (by omega) _ g0 g1).mono ?_
        rintro e w5 ⟨⟨b5, rfl, hb5⟩, bel5⟩
        have g0 := g0.below bel5
        have g1 := g1.below bel5
        have bel5 := bel3.trans (bel5.mono bel3.size)
        clear bel3
        cases b5 with
        | false =>
          have H5 : Hid _ := not_eq fun h => absurd (hb5.2 h) (by decide)
          clear hb5
          go_wp2_with fail
          refine (eq_any p0 _ n _ e1 _ S T (by omega) (by omega) _ g0 g1).mono ?_
          rintro e w7 ⟨⟨b7, rfl, hb7⟩, bel7⟩
          have e7 : b7 = false := by
            cases b7 with
            | false => rfl
            | true => exact absurd (hb7.1 rfl) H5.out
          subst e7
          clear hb7 H5
          have bel7 := bel5.trans (bel7.mono bel5.size)
          go_wp2
          go_ret
          exact ⟨rfl, bel7⟩
        | true =>
          have H5 : Hid _ := con_both (hb5.1 rfl)
          clear hb5
          go_wp2_with fail
          refine (con_any _ p0 e1 _ n _ T S (by omega) (by omega) _ g1 g0).mono ?_
          rintro e w6 ⟨⟨b6, rfl, hb6⟩, bel6⟩
          rw [H5.out] at hb6
          have g0 := g0.below bel6
          have g1 := g1.below bel6
          have bel6 := bel5.trans (bel6.mono bel5.size)
          have H6 : Hid _ := hb6
          clear bel5 hb6 H5
          go_wp2_with fail
          refine (eq_any p0 _ n _ e1 _ S T (by omega) (by omega) _ g0 g1).mono ?_
          rintro e w7 ⟨⟨b7, rfl, hb7⟩, bel7⟩
          have e7 : b6 = b7 := by rw [Bool.eq_iff_iff, H6.out, hb7]
          subst e7
          clear hb7 H6
          have bel7 := bel6.trans (bel7.mono bel6.size)
          go_wp2
          go_ret
          exact ⟨by simp, bel7⟩
      | true =>
        have H3 : Hid _ := con_on hkm (hb3.1 rfl)
        clear hb3
        go_wp2_with fail
        refine (con_any p0 _ n _ e1 _ S T (by omega) (by omega) _ g0 g1).mono ?_
        rintro e w4 ⟨⟨b4, rfl, hb4⟩, bel4⟩
        have e4 : b4 = true := hb4.2 H3.out
        subst e4
        clear hb4 H3
        have g0 := g0.below bel4
        have g1 := g1.below bel4
        have bel4 := bel3.trans (bel4.mono bel3.size)
        clear bel3
        go_wp2_with fail
        refine (con_any p0 _ n _ e1 _ S T (by omega) (by omega) _ g0 g1).mono ?_
        rintro e w5 ⟨⟨b5, rfl, hb5⟩, bel5⟩
        have g0 := g0.below bel5
        have g1 := g1.below bel5
        have bel5 := bel4.trans (bel5.mono bel4.size)
        clear bel4
        cases b5 with
        | false =>
          have H5 : Hid _ := not_eq fun h => absurd (hb5.2 h) (by decide)
          clear hb5
          go_wp2_with fail
          refine (eq_any p0 _ n _ e1 _ S T (by omega) (by omega) _ g0 g1).mono ?_
          rintro e w7 ⟨⟨b7, rfl, hb7⟩, bel7⟩
          have e7 : b7 = false := by
            cases b7 with
            | false => rfl
            | true => exact absurd (hb7.1 rfl) H5.out
          subst e7
          clear hb7 H5
          have bel7 := bel5.trans (bel7.mono bel5.size)
          go_wp2
          go_ret
          exact ⟨rfl, bel7⟩
        | true =>
          have H5 : Hid _ := con_both (hb5.1 rfl)
          clear hb5
          go_wp2_with fail
          refine (con_any _ p0 e1 _ n _ T S (by omega) (by omega) _ g1 g0).mono ?_
          rintro e w6 ⟨⟨b6, rfl, hb6⟩, bel6⟩
          rw [H5.out] at hb6
          have g0 := g0.below bel6
          have g1 := g1.below bel6
          have bel6 := bel5.trans (bel6.mono bel5.size)
          have H6 : Hid _ := hb6
          clear bel5 hb6 H5
          go_wp2_with fail
          refine (eq_any p0 _ n _ e1 _ S T (by omega) (by omega) _ g0 g1).mono ?_
          rintro e w7 ⟨⟨b7, rfl, hb7⟩, bel7⟩
          have e7 : b6 = b7 := by rw [Bool.eq_iff_iff, H6.out, hb7]
          subst e7
          clear hb7 H6
          have bel7 := bel6.trans (bel7.mono bel6.size)
          go_wp2
          go_ret
          exact ⟨by simp, bel7⟩
    · have e2' : b2 = false := by
        cases b2 with
        | false => rfl
        | true => exact absurd (hb2.1 rfl) hkm2
      subst e2'
      clear hb2
      have dk : ((k : Int) == (e1 : Int)) = false := by rw [beq_eq_false_iff_ne]; omega
      go_wp2_with fail
      refine (con_any p0 _ n _ k _ S T (by omega) (by omega) _ g0 gk).mono ?_
      rintro e w3 ⟨⟨b3, rfl, hb3⟩, bel3⟩
      have g0 := g0.below bel3
      have g1 := g1.below bel3
      have bel3 := bel2.trans (bel3.mono bel2.size)
      clear bel2 gk
      cases b3 with
      | false =>
        clear hb3
        go_wp2_with fail
        refine (con_any p0 _ n _ e1 _ S T (by omega) (by omega) _ g0 g1).mono ?_
        rintro e w5 ⟨⟨b5, rfl, hb5⟩, bel5⟩
        have g0 := g0.below bel5
        have g1 := g1.below bel5
        have bel5 := bel3.trans (bel5.mono bel3.size)
        clear bel3
        cases b5 with
        | false =>
          have H5 : Hid _ := not_eq fun h => absurd (hb5.2 h) (by decide)
          clear hb5
          go_wp2_with fail
          refine (eq_any p0 _ n _ e1 _ S T (by omega) (by omega) _ g0 g1).mono ?_
          rintro e w7 ⟨⟨b7, rfl, hb7⟩, bel7⟩
          have e7 : b7 = false := by
            cases b7 with
            | false => rfl
            | true => exact absurd (hb7.1 rfl) H5.out
          subst e7
          clear hb7 H5
          have bel7 := bel5.trans (bel7.mono bel5.size)
          go_wp2
          go_ret
          exact ⟨rfl, bel7⟩
        | true =>
          have H5 : Hid _ := con_both (hb5.1 rfl)
          clear hb5
          go_wp2_with fail
          refine (con_any _ p0 e1 _ n _ T S (by omega) (by omega) _ g1 g0).mono ?_
          rintro e w6 ⟨⟨b6, rfl, hb6⟩, bel6⟩
          rw [H5.out] at hb6
          have g0 := g0.below bel6
          have g1 := g1.below bel6
          have bel6 := bel5.trans (bel6.mono bel5.size)
          have H6 : Hid _ := hb6
          clear bel5 hb6 H5
          go_wp2_with fail
          refine (eq_any p0 _ n _ e1 _ S T (by omega) (by omega) _ g0 g1).mono ?_
          rintro e w7 ⟨⟨b7, rfl, hb7⟩, bel7⟩
          have e7 : b6 = b7 := by rw [Bool.eq_iff_iff, H6.out, hb7]
          subst e7
          clear hb7 H6
          have bel7 := bel6.trans (bel7.mono bel6.size)
          go_wp2
          go_ret
          exact ⟨by simp, bel7⟩
      | true =>
        have H3 : Hid _ := con_on hkm (hb3.1 rfl)
        clear hb3
        go_wp2_with fail
        refine (con_any p0 _ n _ e1 _ S T (by omega) (by omega) _ g0 g1).mono ?_
        rintro e w4 ⟨⟨b4, rfl, hb4⟩, bel4⟩
        have e4 : b4 = true := hb4.2 H3.out
        subst e4
        clear hb4 H3
        have g0 := g0.below bel4
        have g1 := g1.below bel4
        have bel4 := bel3.trans (bel4.mono bel3.size)
        clear bel3
        go_wp2_with fail
        refine (con_any p0 _ n _ e1 _ S T (by omega) (by omega) _ g0 g1).mono ?_
        rintro e w5 ⟨⟨b5, rfl, hb5⟩, bel5⟩
        have g0 := g0.below bel5
        have g1 := g1.below bel5
        have bel5 := bel4.trans (bel5.mono bel4.size)
        clear bel4
        cases b5 with
        | false =>
          have H5 : Hid _ := not_eq fun h => absurd (hb5.2 h) (by decide)
          clear hb5
          go_wp2_with fail
          refine (eq_any p0 _ n _ e1 _ S T (by omega) (by omega) _ g0 g1).mono ?_
          rintro e w7 ⟨⟨b7, rfl, hb7⟩, bel7⟩
          have e7 : b7 = false := by
            cases b7 with
            | false => rfl
            | true => exact absurd (hb7.1 rfl) H5.out
          subst e7
          clear hb7 H5
          have bel7 := bel5.trans (bel7.mono bel5.size)
          go_wp2
          go_ret
          exact ⟨rfl, bel7⟩
        | true =>
          have H5 : Hid _ := con_both (hb5.1 rfl)
          clear hb5
          go_wp2_with fail
          refine (con_any _ p0 e1 _ n _ T S (by omega) (by omega) _ g1 g0).mono ?_
          rintro e w6 ⟨⟨b6, rfl, hb6⟩, bel6⟩
          rw [H5.out] at hb6
          have g0 := g0.below bel6
          have g1 := g1.below bel6
          have bel6 := bel5.trans (bel6.mono bel5.size)
          have H6 : Hid _ := hb6
          clear bel5 hb6 H5
          go_wp2_with fail
          refine (eq_any p0 _ n _ e1 _ S T (by omega) (by omega) _ g0 g1).mono ?_
          rintro e w7 ⟨⟨b7, rfl, hb7⟩, bel7⟩
          have e7 : b6 = b7 := by rw [Bool.eq_iff_iff, H6.out, hb7]
          subst e7
          clear hb7 H6
          have bel7 := bel6.trans (bel7.mono bel6.size)
          go_wp2
          go_ret
          exact ⟨by simp, bel7⟩
end Go.Proofs.Qxb6632321a
