import Derived.Test.Qxb6632267aName
namespace Go.Proofs.Qxb6632267a
open Go.ChangeShapes Go.WideShapes Go.ChangeAt Go.RowKit

def AnyB (e : Ending) : Prop := ∃ b, e = .returned (.bool b)

theorem bytes5_any (s : ByteArray) (i : Int) (hs : s.size ≤ maxLen) (w : World) : Calls Try.prog 5 #[.string s, .int .i64 i] w fun e w' => AnyB e ∧ w' = w := by
  unfold maxLen at hs
  go_enter Try.func5, Try.ntmps5
  go_wp2
  all_goals (go_ret; exact ⟨⟨_, rfl⟩, rfl⟩)
theorem bytes8_any (s : ByteArray) (hs : s.size ≤ maxLen) (w : World) : Calls Try.prog 8 #[.string s] w fun e w' => AnyB e ∧ w' = w := by
  unfold maxLen at hs
  go_enter Try.func8, Try.ntmps8
  go_wp2
  all_goals (go_ret; exact ⟨⟨_, rfl⟩, rfl⟩)

/-- How many of the first n bytes a name may hold. -/
def cnt : Nat → Nat
  | 0 => 0
  | n + 1 => cnt n + if okc n = true then 1 else 0
theorem cnt_le (n : Nat) : cnt n ≤ n := by
  induction n with
  | zero => exact Nat.le_refl _
  | succ n ih => unfold cnt; split <;> omega
theorem cnt_all : cnt 256 = 66 := by decide +kernel

/-- One byte. -/
def one (b : Nat) : ByteArray := ⟨#[UInt8.ofNat b]⟩
theorem vn_one (b : Nat) (h : b < 256) : VN (one b) ↔ okc b = true := by
  have hs : (one b).size = 1 := rfl
  have e : ((one b)[0]'(by omega)).toNat = b := by
    show (UInt8.ofNat b).toNat = b
    simp [Nat.mod_eq_of_lt h]
  constructor
  · intro ⟨_, _, h3⟩
    have := h3 0 (by omega)
    rwa [e] at this
  · intro hk
    refine ⟨by omega, by omega, fun i hi => ?_⟩
    have : i = 0 := by omega
    subst this
    rw [e]; exact hk

theorem conv_one (b : Nat) (h : b < 256) (w : World) (g : Nat) (hc : w.cell? ⟨g, 0, none⟩ = some (.int .u8 b)) :
    (convert 25 9 (.slice (some ⟨g, 0, none⟩) 1 1)).run Try.prog w = .ok (.string (one b)) w := by
  have := run_convert_bytes_back (P := Try.prog) w 25 9 5 ⟨g, 0, none⟩ 1 [UInt8.ofNat b] Try.underlying25 Try.underlying5 Try.underlying9 (fun j hj => by
    have : j = 0 := by simpa using hj
    subst this
    rw [add_plain, Nat.add_zero, hc]
    simp [Nat.mod_eq_of_lt h])
  exact this

set_option maxRecDepth 100000 in
set_option maxHeartbeats 1000000 in
theorem single_any (w : World) : Calls Try.prog 7 #[] w fun e w' => e = .returned (.int .i64 66) ∧ Below w.heap.size w w' := by
  go_enter Try.func7, Try.ntmps7
  go_wp2
  go_loopw [1, 2] (fun n i wr => ∃ k : Nat, k ≤ 256 ∧ i = .int .i64 k ∧ n = .int .i64 (cnt k) ∧ Below w.heap.size w wr) (fun _ i _ => 256 - (intOf i).toNat)
  case atStart => exact ⟨0, by omega, rfl, rfl, Below.refl _ _⟩
  case round =>
    obtain ⟨k, hk, rfl, rfl, hbel⟩ := hrel
    have hcl := cnt_le k
    by_cases hlt : k < 256
    · have hcv := fun wx g hc => conv_one k hlt wx g hc
      have hcv2 : ∀ W : World, (convert 25 9 (.slice (some ⟨W.heap.size, 0, none⟩) 1 1)).run Try.prog (W.alloc (.cells #[.int .u8 (k : Int)] 5)) = .ok (.string (one k)) (W.alloc (.cells #[.int .u8 (k : Int)] 5)) := fun W => hcv _ _ (by simp [go_sem])
      clear hcv
      go_wp2_with fail
      clear hcv2
      refine (name_any (one k) (by show 1 ≤ 2097152; omega) _).mono ?_
      rintro e wx ⟨⟨b, rfl, hb⟩, hbx⟩
      have hbel2 := (hbel.alloc hbel.size (.cells #[.int .u8 (k : Int)] 5)).trans (hbx.mono (by simp; have := hbel.size; omega))
      rw [vn_one k hlt] at hb
      have HB : Hid _ := hb
      clear hb hbx
      cases b
      · have HC : Hid (cnt (k + 1) = cnt k) := by
          show cnt k + (if okc k = true then 1 else 0) = cnt k
          rw [if_neg fun h => absurd (HB.out.2 h) (by decide), Nat.add_zero]
        go_wp2
        go_roundw
        case rel => exact ⟨k + 1, by omega, by go_num, by rw [HC.out], hbel2⟩
        case measure => simp [intOf]; omega
      · have HC : Hid (cnt (k + 1) = cnt k + 1) := by
          show cnt k + (if okc k = true then 1 else 0) = cnt k + 1
          rw [if_pos (HB.out.1 rfl)]
        go_wp2
        go_roundw
        case rel => exact ⟨k + 1, by omega, by go_num, by rw [HC.out]; go_num, hbel2⟩
        case measure => simp [intOf]; omega
    · have e : k = 256 := by omega
      subst e
      have hca := cnt_all
      go_wp2
      go_ret
      exact ⟨by rw [hca]; rfl, hbel⟩

/-- Two bytes. -/
def two (a b : Nat) : ByteArray := ⟨#[UInt8.ofNat a, UInt8.ofNat b]⟩
theorem vn_two (a b : Nat) (ha : a < 256) (hb : b < 256) : VN (two a b) ↔ okc a = true ∧ okc b = true := by
  have hs : (two a b).size = 2 := rfl
  have e0 : ((two a b)[0]'(by omega)).toNat = a := by
    show (UInt8.ofNat a).toNat = a
    simp [Nat.mod_eq_of_lt ha]
  have e1 : ((two a b)[1]'(by omega)).toNat = b := by
    show (UInt8.ofNat b).toNat = b
    simp [Nat.mod_eq_of_lt hb]
  constructor
  · intro ⟨_, _, h3⟩
    have h0 := h3 0 (by omega)
    have h1 := h3 1 (by omega)
    rw [e0] at h0
    rw [e1] at h1
    exact ⟨h0, h1⟩
  · intro ⟨h0, h1⟩
    refine ⟨by omega, by omega, fun i hi => ?_⟩
    rcases (show i = 0 ∨ i = 1 by omega) with q | q
    · subst q; rw [e0]; exact h0
    · subst q; rw [e1]; exact h1

theorem conv_two (a b : Nat) (ha : a < 256) (hb : b < 256) (w : World) (g : Nat) (hc : w.cell? ⟨g, 0, none⟩ = some (.int .u8 a)) (hd : w.cell? ⟨g, 1, none⟩ = some (.int .u8 b)) :
    (convert 25 9 (.slice (some ⟨g, 0, none⟩) 2 2)).run Try.prog w = .ok (.string (two a b)) w := by
  have := run_convert_bytes_back (P := Try.prog) w 25 9 5 ⟨g, 0, none⟩ 2 [UInt8.ofNat a, UInt8.ofNat b] Try.underlying25 Try.underlying5 Try.underlying9 (fun j hj => by
    rcases (show j = 0 ∨ j = 1 by simp at hj; omega) with q | q
    · subst q
      rw [add_plain, Nat.add_zero, hc]
      simp [Nat.mod_eq_of_lt ha]
    · subst q
      rw [add_plain, Nat.zero_add, hd]
      simp [Nat.mod_eq_of_lt hb])
  exact this

set_option maxRecDepth 100000 in
set_option maxHeartbeats 1000000 in
theorem two_any (w : World) : Calls Try.prog 9 #[] w fun e w' => e = .returned (.int .i64 4356) ∧ Below w.heap.size w w' := by
  go_enter Try.func9, Try.ntmps9
  go_wp2
  go_loopw [1, 2] (fun n i wr => ∃ k : Nat, k ≤ 256 ∧ i = .int .i64 k ∧ n = .int .i64 ((66 * cnt k : Nat) : Int) ∧ Below w.heap.size w wr) (fun _ i _ => 256 - (intOf i).toNat)
  case atStart => exact ⟨0, by omega, rfl, rfl, Below.refl _ _⟩
  case round =>
    obtain ⟨k, hk, rfl, rfl, hbel⟩ := hrel
    have hcl := cnt_le k
    by_cases hlt : k < 256
    · have hd : decide ((k : Int) < 256) = true := decide_eq_true (by omega)
      go_wp2
      go_loopw [1, 3] (fun n i wr => ∃ j : Nat, j ≤ 256 ∧ i = .int .i64 j ∧ n = .int .i64 ((66 * cnt k + (if okc k = true then cnt j else 0) : Nat) : Int) ∧ Below w.heap.size w wr) (fun _ i _ => 256 - (intOf i).toNat)
      case atStart => exact ⟨0, by omega, rfl, by simp [cnt], hbel⟩
      case round =>
        clear hbel
        obtain ⟨j, hj, rfl, rfl, hbel⟩ := hrel
        have hjl := cnt_le j
        by_cases hjt : j < 256
        · have hcv2 : ∀ W : World, (convert 25 9 (.slice (some ⟨W.heap.size, 0, none⟩) 2 2)).run Try.prog (W.alloc (.cells #[.int .u8 (k : Int), .int .u8 (j : Int)] 5)) = .ok (.string (two k j)) (W.alloc (.cells #[.int .u8 (k : Int), .int .u8 (j : Int)] 5)) :=
            fun W => conv_two k j hlt hjt _ _ (by simp [go_sem]) (by simp [go_sem])
          generalize hM : (if okc k = true then cnt j else 0) = m
          have hm : m ≤ 256 := by rw [← hM]; split <;> omega
          have HM : Hid _ := hM
          clear hM
          go_wp2_with fail
          clear hcv2
          refine (name_any (two k j) (by show 2 ≤ 2097152; omega) _).mono ?_
          rintro e wx ⟨⟨b, rfl, hb⟩, hbx⟩
          have hbel2 := (hbel.alloc hbel.size (.cells #[.int .u8 (k : Int), .int .u8 (j : Int)] 5)).trans (hbx.mono (by simp; have := hbel.size; omega))
          rw [vn_two k j hlt hjt] at hb
          have HB : Hid _ := hb
          clear hb hbx
          cases b
          · have HC : Hid ((if okc k = true then cnt (j + 1) else 0) = m) := by
              rw [← HM.out]
              by_cases h1 : okc k = true
              · rw [if_pos h1, if_pos h1]
                have h2 : ¬ okc j = true := fun h2 => absurd (HB.out.2 ⟨h1, h2⟩) (by decide)
                show cnt j + (if okc j = true then 1 else 0) = cnt j
                rw [if_neg h2, Nat.add_zero]
              · rw [if_neg h1, if_neg h1]; exact rfl
            go_wp2
            go_roundw
            case rel => exact ⟨j + 1, by omega, by go_num, by rw [HC.out]; go_num, hbel2⟩
            case measure => simp [intOf]; omega
          · have HC : Hid ((if okc k = true then cnt (j + 1) else 0) = m + 1) := by
              obtain ⟨h1, h2⟩ := HB.out.1 rfl
              rw [← HM.out, if_pos h1, if_pos h1]
              show cnt j + (if okc j = true then 1 else 0) = cnt j + 1
              rw [if_pos h2]
            go_wp2
            go_roundw
            case rel => exact ⟨j + 1, by omega, by go_num, by rw [HC.out]; go_num, hbel2⟩
            case measure => simp [intOf]; omega
        · have e : j = 256 := by omega
          subst e
          have HC : Hid (66 * cnt k + (if okc k = true then cnt 256 else 0) = 66 * cnt (k + 1)) := by
            show _ = 66 * (cnt k + if okc k = true then 1 else 0)
            rw [cnt_all]
            split <;> omega
          rw [HC.out]
          go_wp2
          go_roundw
          case rel => exact ⟨k + 1, by omega, by go_num, rfl, hbel⟩
          case measure => simp [intOf]; omega
    · have e : k = 256 := by omega
      subst e
      have hca := cnt_all
      go_wp2
      go_ret
      exact ⟨by rw [hca]; rfl, hbel⟩
end Go.Proofs.Qxb6632267a
