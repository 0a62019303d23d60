import Derived.Test.Qxb6632321aBase
import Derived.Deep.CutRange
namespace Go.Proofs.Qxb6632321a
open Go.ChangeShapes Go.WideShapes Go.ChangeAt Go.RowKit
attribute [local go_sem] neq22
set_option linter.unusedSimpArgs false
set_option linter.unusedVariables false

theorem size_int (a : Option Addr) (n c : Nat) (L : Int) (S : Nat → ByteArray) (hn : n ≤ 65536) (h0 : 0 ≤ L) (hL : L ≤ 1048576) (w : World) (h : StrsAt w a n S) :
    Calls Try.prog 6 #[.slice a n c, .int .i64 L] w fun e w' => (∃ r : Nat, r ≤ 1048577 ∧ e = .returned (.int .i64 r)) ∧ w' = w := by
  obtain ⟨k, rfl⟩ := Int.eq_ofNat_of_zero_le h0
  exact size_any a n c k S hn (by omega) w h

theorem cat_lo {n i : Nat} {X Y : Nat → ByteArray} (h : i < n) : cat n X Y i = X i := by unfold cat; rw [if_pos h]
theorem cat_hi {n i : Nat} {X Y : Nat → ByteArray} : cat n X Y (n + i) = Y i := by unfold cat; rw [if_neg (by omega), Nat.add_sub_cancel_left]
theorem con_cat (n m : Nat) (X Y : Nat → ByteArray) : Con n X (n + m) (cat n X Y) := ⟨by omega, fun _ hi => (cat_lo hi).symm⟩
theorem con_back (n m : Nat) (X Y : Nat → ByteArray) : Con (n + m) (cat n X Y) n X ↔ m = 0 :=
  ⟨fun h => by have := h.1; omega, fun h => ⟨by omega, fun _ hi => cat_lo (by omega)⟩⟩
theorem con_cancel (n m l : Nat) (X Y Z : Nat → ByteArray) : Con (n + m) (cat n X Y) (n + l) (cat n X Z) ↔ Con m Y l Z := by
  constructor
  · intro ⟨h1, h2⟩
    refine ⟨by omega, fun i hi => ?_⟩
    have := h2 (n + i) (by omega)
    rwa [cat_hi, cat_hi] at this
  · intro ⟨h1, h2⟩
    refine ⟨by omega, fun i hi => ?_⟩
    by_cases q : i < n
    · rw [cat_lo q, cat_lo q]
    · obtain ⟨j, rfl⟩ : ∃ j, i = n + j := ⟨i - n, by omega⟩
      rw [cat_hi, cat_hi]
      exact h2 j (by omega)

theorem row_at {w : World} {g n : Nat} {S : Nat → ByteArray} (h : w.rowIs g 9 n (strC S)) : StrsAt w (some ⟨g, 0, none⟩) n S := fun i hi =>
  ⟨g, 0, rfl, by rw [Nat.zero_add]; exact h.cell hi, h.lt⟩

set_option maxRecDepth 100000 in
set_option maxHeartbeats 4000000 in
theorem law1 (a0 a1 a2 : Option Addr) (n c0 m c1 l c2 : Nat) (S T U : Nat → ByteArray) (hn : n ≤ maxLen) (hm : m ≤ maxLen) (hl : l ≤ maxLen) (w : World) (z0 : a0 = none → n = 0 ∧ c0 = 0) (z1 : a1 = none → m = 0 ∧ c1 = 0) (z2 : a2 = none → l = 0 ∧ c2 = 0)
    (h0 : StrsAt w a0 n S) (h1 : StrsAt w a1 m T) (h2 : StrsAt w a2 l U) :
    Calls Try.prog 3 #[.slice a0 n c0, .slice a1 m c1, .slice a2 l c2] w fun e w' => e = .returned (.bool true) ∧ Below w.heap.size w w' := by
  go_enter Try.func3, Try.ntmps3
  go_wp2_with fail
  refine (bytes5_any a0 a1 a2 n c0 m c1 l c2 S T U hn hm hl w h0 h1 h2).mono ?_
  rintro e w' ⟨⟨b, rfl⟩, rfl⟩
  unfold maxLen at hn hm hl
  cases b with
  | false =>
    go_wp2
    go_ret
    exact ⟨rfl, Below.refl _ _⟩
  | true =>
  by_cases q0 : n ≤ 65536
  case neg =>
    go_wp2
    go_ret
    exact ⟨rfl, Below.refl _ _⟩
  have d0 : decide ((65536 : Int) < (n : Int)) = false := decide_eq_false (by omega)
  by_cases q1 : m ≤ 65536
  case neg =>
    go_wp2
    go_ret
    exact ⟨rfl, Below.refl _ _⟩
  have d1 : decide ((65536 : Int) < (m : Int)) = false := decide_eq_false (by omega)
  by_cases q2 : l ≤ 65536
  case neg =>
    go_wp2
    go_ret
    exact ⟨rfl, Below.refl _ _⟩
  have d2 : decide ((65536 : Int) < (l : Int)) = false := decide_eq_false (by omega)
  clear hn hm hl
  go_upto_if 38 with (fail)
  go_cut [0] from 19 to 120 (fun v wc => ∃ a c, v = .slice a n c ∧ StrsAt wc a n S ∧ Below w'.heap.size w' wc)
  case first =>
    cases a0 with
    | none =>
      obtain ⟨rfl, rfl⟩ := z0 rfl
      go_wp2
      go_meet
      case rel => exact ⟨_, _, rfl, h0, Below.refl _ _⟩
    | some ad =>
      have hmk := run_make_row' (P := Try.prog) 22 9 (.string ByteArray.empty) 16 Try.underlying22 Try.info9 rfl .i64 .i64 n (by omega) (by omega)
      go_wp2_with (refine copy_strs w' rfl (.tmp 42) (.tmp 43) rfl n c0 (some ad) S rfl rfl h0 ?_; intro w2 hrow hb2)
      go_meet
      case rel => exact ⟨_, _, rfl, row_at hrow.out, hb2⟩
  case rest =>
  obtain ⟨p0, e0, rfl, g0, bel0⟩ := hcut
  have j1 := h1.below bel0
  have j2 := h2.below bel0
  clear h0 z0 h1 h2
  obtain ⟨wA, hwA⟩ : ∃ wA, wA = wc := ⟨_, rfl⟩
  subst hwA
  go_upto_if 47 with (fail)
  go_cut [1] from 19 to 120 (fun v wc => ∃ a c, v = .slice a m c ∧ StrsAt wc a m T ∧ Below wA.heap.size wA wc)
  case first =>
    cases a1 with
    | none =>
      obtain ⟨rfl, rfl⟩ := z1 rfl
      go_wp2
      go_meet
      case rel => exact ⟨_, _, rfl, j1, Below.refl _ _⟩
    | some ad =>
      have hmk := run_make_row' (P := Try.prog) 22 9 (.string ByteArray.empty) 16 Try.underlying22 Try.info9 rfl .i64 .i64 m (by omega) (by omega)
      go_wp2_with (refine copy_strs wA rfl (.tmp 51) (.tmp 52) rfl m c1 (some ad) T rfl rfl j1 ?_; intro w2 hrow hb2)
      go_meet
      case rel => exact ⟨_, _, rfl, row_at hrow.out, hb2⟩
  case rest =>
  obtain ⟨p1, e1, rfl, g1, bel1⟩ := hcut
  have g0 := g0.below bel1
  have j2 := j2.below bel1
  have bel1 := bel0.trans (bel1.mono bel0.size)
  clear bel0 j1 z1
  obtain ⟨wB, hwB⟩ : ∃ wB, wB = wc := ⟨_, rfl⟩
  subst hwB
  go_upto_if 56 with (fail)
  go_cut [2] from 19 to 120 (fun v wc => ∃ a c, v = .slice a l c ∧ StrsAt wc a l U ∧ Below wB.heap.size wB wc)
  case first =>
    cases a2 with
    | none =>
      obtain ⟨rfl, rfl⟩ := z2 rfl
      go_wp2
      go_meet
      case rel => exact ⟨_, _, rfl, j2, Below.refl _ _⟩
    | some ad =>
      have hmk := run_make_row' (P := Try.prog) 22 9 (.string ByteArray.empty) 16 Try.underlying22 Try.info9 rfl .i64 .i64 l (by omega) (by omega)
      go_wp2_with (refine copy_strs wB rfl (.tmp 60) (.tmp 61) rfl l c2 (some ad) U rfl rfl j2 ?_; intro w2 hrow hb2)
      go_meet
      case rel => exact ⟨_, _, rfl, row_at hrow.out, hb2⟩
  case rest =>
  obtain ⟨p2, e2, rfl, g2, bel2⟩ := hcut
  have g0 := g0.below bel2
  have g1 := g1.below bel2
  have bel2 := bel1.trans (bel2.mono bel1.size)
  clear bel1 j2 z2
  go_wp2_with fail
  refine (size_int p0 n e0 _ S q0 (by omega) (by omega) _ g0).mono ?_
  rintro e wx ⟨⟨r0, hr0, rfl⟩, rfl⟩
  by_cases k0 : r0 ≤ 1048576
  case neg =>
    go_wp2
    go_ret
    exact ⟨rfl, bel2⟩
  go_wp2_with fail
  refine (size_int p1 m e1 _ T q1 (by omega) (by omega) _ g1).mono ?_
  rintro e wx ⟨⟨r1, hr1, rfl⟩, rfl⟩
  by_cases k1 : r1 ≤ 1048576 - r0
  case neg =>
    go_wp2
    go_ret
    exact ⟨rfl, bel2⟩
  go_wp2_with fail
  refine (size_int p2 l e2 _ U q2 (by omega) (by omega) _ g2).mono ?_
  rintro e wx ⟨⟨r2, hr2, rfl⟩, rfl⟩
  by_cases k2 : r2 ≤ 1048576 - r0 - r1
  case neg =>
    go_wp2
    go_ret
    exact ⟨rfl, bel2⟩
  go_wp2_with fail
  refine (join_any p0 p1 n e0 m e1 S T q0 q1 _ g0 g1).mono ?_
  rintro e w3 ⟨rfl, hpa, bel3⟩
  have g0 := g0.below bel3
  have g1 := g1.below bel3
  have g2 := g2.below bel3
  have ga := row_at hpa
  have bel3 := bel2.trans (bel3.mono bel2.size)
  clear bel2 hpa
  go_wp2_with fail
  refine (join_any p0 p2 n e0 l e2 S U q0 q2 _ g0 g2).mono ?_
  rintro e w4 ⟨rfl, hpb, bel4⟩
  have g0 := g0.below bel4
  have g1 := g1.below bel4
  have g2 := g2.below bel4
  have ga := ga.below bel4
  have gb := row_at hpb
  have bel4 := bel3.trans (bel4.mono bel3.size)
  clear bel3 hpb
  go_wp2_with fail
  refine (con_any p0 _ n e0 (n + m) _ S (cat n S T) (by omega) (by omega) _ g0 ga).mono ?_
  rintro e w5 ⟨⟨b1, rfl, hb1⟩, bel5⟩
  have e1' : b1 = true := hb1.2 (con_cat n m S T)
  subst e1'
  have g0 := g0.below bel5
  have g1 := g1.below bel5
  have g2 := g2.below bel5
  have ga := ga.below bel5
  have gb := gb.below bel5
  have bel5 := bel4.trans (bel5.mono bel4.size)
  clear bel4 hb1
  go_wp2_with fail
  refine (con_any p0 _ n e0 (n + l) _ S (cat n S U) (by omega) (by omega) _ g0 gb).mono ?_
  rintro e w6 ⟨⟨b2, rfl, hb2⟩, bel6⟩
  have e2' : b2 = true := hb2.2 (con_cat n l S U)
  subst e2'
  have g0 := g0.below bel6
  have g1 := g1.below bel6
  have g2 := g2.below bel6
  have ga := ga.below bel6
  have gb := gb.below bel6
  have bel6 := bel5.trans (bel6.mono bel5.size)
  clear bel5 hb2
  go_wp2_with fail
  refine (con_any _ p0 (n + m) _ n e0 (cat n S T) S (by omega) (by omega) _ ga g0).mono ?_
  rintro e w7 ⟨⟨b3, rfl, hb3⟩, bel7⟩
  rw [con_back] at hb3
  have e3' : b3 = ((m : Int) == 0) := by
    rw [Bool.eq_iff_iff, hb3, beq_iff_eq]; omega
  have g1 := g1.below bel7
  have g2 := g2.below bel7
  have ga := ga.below bel7
  have gb := gb.below bel7
  have bel7 := bel6.trans (bel7.mono bel6.size)
  clear bel6 hb3 g0
  cases hm0 : ((m : Int) == 0) <;> rw [hm0] at e3' <;> subst e3'
  all_goals
    go_wp2_with fail
    refine (con_any _ _ (n + m) _ (n + l) _ (cat n S T) (cat n S U) (by omega) (by omega) _ ga gb).mono ?_
    rintro e w8 ⟨⟨b4, rfl, hb4⟩, bel8⟩
    rw [con_cancel] at hb4
    have g1 := g1.below bel8
    have g2 := g2.below bel8
    have bel8 := bel7.trans (bel8.mono bel7.size)
    clear bel7 ga gb
    have H4 : Hid _ := hb4
    clear hb4
    go_wp2_with fail
    refine (con_any p1 p2 m _ l _ T U (by omega) (by omega) _ g1 g2).mono ?_
    rintro e w9 ⟨⟨b5, rfl, hb5⟩, bel9⟩
    have e5 : b4 = b5 := by rw [Bool.eq_iff_iff, H4.out, hb5]
    subst e5
    clear H4 hb5
    have bel9 := bel8.trans (bel9.mono bel8.size)
    go_wp2
    go_ret
    exact ⟨by simp, bel9⟩
end Go.Proofs.Qxb6632321a
