import Derived.Test.Qxb6632321aRows
import Derived.WalkKit
import Derived.ProofKit
import Derived.OpenShut
import Derived.ShutString
import Derived.ChangeOld
import Derived.Below
import Derived.Handy
import Derived.WalkSpells
import Derived.WalkLawsBesides
import Derived.BigQuiet
import Derived.Deep.QuietTactic
import Derived.Deep.OwnRows
import Derived.Laws.CopyOwn
import Derived.SliceStrings
namespace Go.Proofs.Qxb6632321a
open Go.ChangeShapes Go.WideShapes Go.ChangeAt Go.RowKit

def AnyB (e : Ending) : Prop := ∃ b, e = .returned (.bool b)
/-- A slice of strings that can be read. -/
def StrsAt (w : World) (a : Option Addr) (n : Nat) (S : Nat → ByteArray) : Prop :=
  ∀ i, i < n → ∃ b off, a = some ⟨b, off, none⟩ ∧ w.cell? ⟨b, off + i, none⟩ = some (.string (S i)) ∧ b < w.heap.size
theorem StrsAt.below {w w' : World} {a : Option Addr} {n : Nat} {S : Nat → ByteArray} (h : StrsAt w a n S) (hb : Below w.heap.size w w') : StrsAt w' a n S := fun i hi => by
  obtain ⟨b, off, e, hc, hl⟩ := h i hi
  exact ⟨b, off, e, (hb.cell (by exact hl)).trans hc, Nat.lt_of_lt_of_le hl hb.size⟩

theorem Try.info9 : (Try.prog.info? 9).map (fun i => (i.zero, i.size, i.bytes)) = some (some (.string ByteArray.empty), 1, 16) := by kernel_rfl
theorem neq22 (a : Option Addr) (n c : Nat) (w : World) : (binOp .neq 22 (.slice a n c) (.slice none 0 0)).run Try.prog w = .ok (.bool (!a.isNone)) w := run_neq_slice_nil_any w 22 9 a n c 0 0 Try.underlying22
attribute [local go_sem] neq22

set_option maxHeartbeats 1000000 in
theorem bytes9_any (a0 a1 : Option Addr) (n c0 m c1 : Nat) (k : Int) (S T : Nat → ByteArray) (hn : n ≤ maxLen) (hm : m ≤ maxLen) (w : World) (h0 : StrsAt w a0 n S) (h1 : StrsAt w a1 m T) :
    Calls Try.prog 9 #[.slice a0 n c0, .slice a1 m c1, .int .i64 k] w fun e w' => AnyB e ∧ w' = w := by
  unfold maxLen at hn hm
  by_cases q0 : n ≤ 1048576
  case neg =>
    go_enter Try.func9, Try.ntmps9
    go_wp2
    go_ret
    exact ⟨⟨_, rfl⟩, rfl⟩
  have d0 : decide ((1048576 : Int) < (n : Int)) = false := decide_eq_false (by omega)
  go_enter Try.func9, Try.ntmps9
  go_wp2
  go_loop [7, 8] (fun z i => ∃ (j x : Nat), j ≤ n ∧ i = .int .i64 j ∧ z = .int .i64 x ∧ x ≤ 1048576) (fun _ i => n - (intOf i).toNat)
  case atStart => exact ⟨0, n, by omega, rfl, rfl, by omega⟩
  case round =>
    obtain ⟨j, x, hj, rfl, rfl, hx⟩ := hrel
    by_cases hlt : j < n
    · obtain ⟨b, off, rfl, hcell, _⟩ := h0 j hlt
      clear h0 h1
      by_cases q1 : (S j).size ≤ 1048576
      · by_cases q2 : x + (S j).size ≤ 1048576
        · go_wp2
          go_round
          case rel => exact ⟨j + 1, x + (S j).size, by omega, by go_num, by go_num, by omega⟩
          case measure => simp [intOf]; omega
        · go_wp2
          go_ret
          exact ⟨⟨_, rfl⟩, rfl⟩
      · go_wp2
        go_ret
        exact ⟨⟨_, rfl⟩, rfl⟩
    · by_cases q1 : m ≤ 1048576
      · by_cases q2 : x + m ≤ 1048576
        · have d1 : decide ((1048576 : Int) < (m : Int)) = false := decide_eq_false (by omega)
          have d2 : decide ((1048576 : Int) < (x : Int) + (m : Int)) = false := decide_eq_false (by omega)
          go_wp2
          go_loop [7, 9] (fun z i => ∃ (j x : Nat), j ≤ m ∧ i = .int .i64 j ∧ z = .int .i64 x ∧ x ≤ 1048576) (fun _ i => m - (intOf i).toNat)
          case atStart => exact ⟨0, x + m, by omega, rfl, by go_num, by omega⟩
          case round =>
            clear d2 q2 hx
            obtain ⟨j, x, hj, rfl, rfl, hx⟩ := hrel
            by_cases hlt : j < m
            · obtain ⟨b, off, rfl, hcell, _⟩ := h1 j hlt
              clear h0 h1
              by_cases q1 : (T j).size ≤ 1048576
              · by_cases q2 : x + (T j).size ≤ 1048576
                · go_wp2
                  go_round
                  case rel => exact ⟨j + 1, x + (T j).size, by omega, by go_num, by go_num, by omega⟩
                  case measure => simp [intOf]; omega
                · go_wp2
                  go_ret
                  exact ⟨⟨_, rfl⟩, rfl⟩
              · go_wp2
                go_ret
                exact ⟨⟨_, rfl⟩, rfl⟩
            · go_wp2
              go_ret
              exact ⟨⟨_, rfl⟩, rfl⟩
        · go_wp2
          go_ret
          exact ⟨⟨_, rfl⟩, rfl⟩
      · go_wp2
        go_ret
        exact ⟨⟨_, rfl⟩, rfl⟩

set_option maxHeartbeats 1000000 in
theorem size_any (a : Option Addr) (n c L : Nat) (S : Nat → ByteArray) (hn : n ≤ 65536) (hL : L ≤ 1048576) (w : World) (h0 : StrsAt w a n S) :
    Calls Try.prog 6 #[.slice a n c, .int .i64 L] w fun e w' => (∃ r : Nat, r ≤ 1048577 ∧ e = .returned (.int .i64 r)) ∧ w' = w := by
  go_enter Try.func6, Try.ntmps6
  go_wp2
  go_loop [5, 6] (fun z i => ∃ (j x : Nat), j ≤ n ∧ i = .int .i64 j ∧ z = .int .i64 x ∧ x ≤ L) (fun _ i => n - (intOf i).toNat)
  case atStart => exact ⟨0, 0, by omega, rfl, rfl, by omega⟩
  case round =>
    obtain ⟨j, x, hj, rfl, rfl, hx⟩ := hrel
    by_cases hlt : j < n
    · obtain ⟨b, off, rfl, hcell, _⟩ := h0 j hlt
      clear h0
      by_cases q1 : (S j).size ≤ L
      · by_cases q2 : x + (16 + (S j).size) ≤ L
        · go_wp2
          go_round
          case rel => exact ⟨j + 1, x + (16 + (S j).size), by omega, by go_num, by go_num, by omega⟩
          case measure => simp [intOf]; omega
        · go_wp2
          go_ret
          exact ⟨⟨L + 1, by omega, rfl⟩, rfl⟩
      · go_wp2
        go_ret
        exact ⟨⟨L + 1, by omega, rfl⟩, rfl⟩
    · go_wp2
      go_ret
      exact ⟨⟨x, by omega, rfl⟩, rfl⟩

set_option maxHeartbeats 2000000 in
theorem bytes5_any (a0 a1 a2 : Option Addr) (n c0 m c1 l c2 : Nat) (S T U : Nat → ByteArray) (hn : n ≤ maxLen) (hm : m ≤ maxLen) (hl : l ≤ maxLen) (w : World) (h0 : StrsAt w a0 n S) (h1 : StrsAt w a1 m T) (h2 : StrsAt w a2 l U) :
    Calls Try.prog 5 #[.slice a0 n c0, .slice a1 m c1, .slice a2 l c2] w fun e w' => AnyB e ∧ w' = w := by
  unfold maxLen at hn hm hl
  by_cases q0 : n ≤ 1048576
  case neg =>
    go_enter Try.func5, Try.ntmps5
    go_wp2
    go_ret
    exact ⟨⟨_, rfl⟩, rfl⟩
  have d0 : decide ((1048576 : Int) < (n : Int)) = false := decide_eq_false (by omega)
  go_enter Try.func5, Try.ntmps5
  go_wp2
  go_loop [7, 8] (fun z i => ∃ (j x : Nat), j ≤ n ∧ i = .int .i64 j ∧ z = .int .i64 x ∧ x ≤ 1048576) (fun _ i => n - (intOf i).toNat)
  case atStart => exact ⟨0, n, by omega, rfl, by go_num, by omega⟩
  case round =>
    obtain ⟨j, x, hj, rfl, rfl, hx⟩ := hrel
    by_cases hlt : j < n
    · obtain ⟨b, off, rfl, hcell, _⟩ := h0 j hlt
      clear h0 h1 h2
      by_cases q1 : (S j).size ≤ 1048576
      · by_cases q2 : x + (S j).size ≤ 1048576
        · go_wp2
          go_round
          case rel => exact ⟨j + 1, x + (S j).size, by omega, by go_num, by go_num, by omega⟩
          case measure => simp [intOf]; omega
        · go_wp2
          go_ret
          exact ⟨⟨_, rfl⟩, rfl⟩
      · go_wp2
        go_ret
        exact ⟨⟨_, rfl⟩, rfl⟩
    · by_cases q1 : m ≤ 1048576
      · by_cases q2 : x + m ≤ 1048576
        · have d10 : decide ((1048576 : Int) < (m : Int)) = false := decide_eq_false (by omega)
          have d2 : decide ((1048576 : Int) < (x : Int) + (m : Int)) = false := decide_eq_false (by omega)
          go_wp2
          go_loop [7, 9] (fun z i => ∃ (j x : Nat), j ≤ m ∧ i = .int .i64 j ∧ z = .int .i64 x ∧ x ≤ 1048576) (fun _ i => m - (intOf i).toNat)
          case atStart => exact ⟨0, x + m, by omega, rfl, by go_num, by omega⟩
          case round =>
            clear d2 q2 hx
            obtain ⟨j, x, hj, rfl, rfl, hx⟩ := hrel
            by_cases hlt : j < m
            · obtain ⟨b, off, rfl, hcell, _⟩ := h1 j hlt
              clear h0 h1 h2
              by_cases q1 : (T j).size ≤ 1048576
              · by_cases q2 : x + (T j).size ≤ 1048576
                · go_wp2
                  go_round
                  case rel => exact ⟨j + 1, x + (T j).size, by omega, by go_num, by go_num, by omega⟩
                  case measure => simp [intOf]; omega
                · go_wp2
                  go_ret
                  exact ⟨⟨_, rfl⟩, rfl⟩
              · go_wp2
                go_ret
                exact ⟨⟨_, rfl⟩, rfl⟩
            · by_cases q1 : l ≤ 1048576
              · by_cases q2 : x + l ≤ 1048576
                · have d11 : decide ((1048576 : Int) < (l : Int)) = false := decide_eq_false (by omega)
                  have d2 : decide ((1048576 : Int) < (x : Int) + (l : Int)) = false := decide_eq_false (by omega)
                  go_wp2
                  go_loop [7, 10] (fun z i => ∃ (j x : Nat), j ≤ l ∧ i = .int .i64 j ∧ z = .int .i64 x ∧ x ≤ 1048576) (fun _ i => l - (intOf i).toNat)
                  case atStart => exact ⟨0, x + l, by omega, rfl, by go_num, by omega⟩
                  case round =>
                    clear d2 q2 hx
                    obtain ⟨j, x, hj, rfl, rfl, hx⟩ := hrel
                    by_cases hlt : j < l
                    · obtain ⟨b, off, rfl, hcell, _⟩ := h2 j hlt
                      clear h0 h1 h2
                      by_cases q1 : (U j).size ≤ 1048576
                      · by_cases q2 : x + (U j).size ≤ 1048576
                        · go_wp2
                          go_round
                          case rel => exact ⟨j + 1, x + (U j).size, by omega, by go_num, by go_num, by omega⟩
                          case measure => simp [intOf]; omega
                        · go_wp2
                          go_ret
                          exact ⟨⟨_, rfl⟩, rfl⟩
                      · go_wp2
                        go_ret
                        exact ⟨⟨_, rfl⟩, rfl⟩
                    · go_wp2
                      go_ret
                      exact ⟨⟨_, rfl⟩, rfl⟩
                · go_wp2
                  go_ret
                  exact ⟨⟨_, rfl⟩, rfl⟩
              · go_wp2
                go_ret
                exact ⟨⟨_, rfl⟩, rfl⟩
        · go_wp2
          go_ret
          exact ⟨⟨_, rfl⟩, rfl⟩
      · go_wp2
        go_ret
        exact ⟨⟨_, rfl⟩, rfl⟩

/-- A row of strings of the call's own. -/
def strC (S : Nat → ByteArray) (i : Nat) : Value := .string (S i)
/-- One list of strings behind another. -/
def cat (n : Nat) (X Y : Nat → ByteArray) (i : Nat) : ByteArray := if i < n then X i else Y (i - n)

set_option maxHeartbeats 1000000 in
theorem join_any (a0 a1 : Option Addr) (n c0 m c1 : Nat) (X Y : Nat → ByteArray) (hn : n ≤ 65536) (hm : m ≤ 65536) (w : World) (h0 : StrsAt w a0 n X) (h1 : StrsAt w a1 m Y) :
    Calls Try.prog 7 #[.slice a0 n c0, .slice a1 m c1] w fun e w' => e = .returned (.slice (some ⟨w.heap.size, 0, none⟩) (n + m) (n + m)) ∧ w'.rowIs w.heap.size 9 (n + m) (strC (cat n X Y)) ∧ Below w.heap.size w w' := by
  have hmk := run_make_row' (P := Try.prog) 22 9 (.string ByteArray.empty) 16 Try.underlying22 Try.info9 rfl .i64 .i64 (n + m) (by omega) (by omega)
  rw [show (((n + m : Nat)) : Int) = (n : Int) + (m : Int) by omega] at hmk
  go_enter Try.func7, Try.ntmps7
  go_wp2
  clear hmk
  go_loopw [6] (fun i wr => ∃ (j : Nat), j ≤ n ∧ i = .int .i64 j ∧ wr.rowIs w.heap.size 9 (n + m) (fun i => .string (if i < j then X i else ByteArray.empty)) ∧ Below w.heap.size w wr) (fun i _ => n - (intOf i).toNat)
  case atStart => exact ⟨0, by omega, rfl, World.rowIs_made w (.string ByteArray.empty) (n + m) 9, (Below.refl _ _).alloc (Nat.le_refl _) _⟩
  case round =>
    obtain ⟨j, hj, rfl, hrow, hbel⟩ := hrel
    by_cases hlt : j < n
    · obtain ⟨b, off, rfl, hcell, hb⟩ := h0 j hlt
      clear h0 h1
      have hcell' : wr.cell? ⟨b, off + j, none⟩ = some (.string (X j)) := (hbel.cell (by exact hb)).trans hcell
      have hr := hrow.cell (i := j) (by omega)
      have hf := hrow.frozen j
      go_wp2
      go_roundw
      case rel =>
        refine ⟨j + 1, by omega, by go_num, (hrow.set _ _).congr fun i _ => ?_, hbel.setCell (Nat.le_refl _) _⟩
        by_cases e : i = j
        · subst e; rw [if_pos rfl, if_pos (by omega)]
        · simp only [if_neg e]
          by_cases e2 : i < j
          · rw [if_pos e2, if_pos (by omega)]
          · rw [if_neg e2, if_neg (by omega)]
      case measure => simp [intOf]; omega
    · go_wp2
      go_loopw [7] (fun i wr => ∃ (j : Nat), j ≤ m ∧ i = .int .i64 j ∧ wr.rowIs w.heap.size 9 (n + m) (fun i => .string (if i < n + j then cat n X Y i else ByteArray.empty)) ∧ Below w.heap.size w wr) (fun i _ => m - (intOf i).toNat)
      case atStart =>
        refine ⟨0, by omega, rfl, hrow.congr fun i _ => ?_, hbel⟩
        rw [show j = n by omega, Nat.add_zero]
        by_cases e : i < n
        · rw [if_pos e, if_pos e]; unfold cat; rw [if_pos e]
        · rw [if_neg e, if_neg e]
      case round =>
        clear hrow hbel
        obtain ⟨k, hk, rfl, hrow, hbel⟩ := hrel
        by_cases hlt2 : k < m
        · obtain ⟨b, off, rfl, hcell, hb⟩ := h1 k hlt2
          clear h0 h1
          have hcell' : wr.cell? ⟨b, off + k, none⟩ = some (.string (Y k)) := (hbel.cell (by exact hb)).trans hcell
          have hr := hrow.cell (i := n + k) (by omega)
          have hf := hrow.frozen (n + k)
          go_wp2
          go_roundw
          case rel =>
            refine ⟨k + 1, by omega, by go_num, (hrow.set _ _).congr fun i _ => ?_, hbel.setCell (Nat.le_refl _) _⟩
            by_cases e : i = n + k
            · subst e; rw [if_pos rfl, if_pos (by omega)]; unfold cat; rw [if_neg (by omega), Nat.add_sub_cancel_left]
            · simp only [if_neg e]
              by_cases e2 : i < n + k
              · rw [if_pos e2, if_pos (by omega)]
              · rw [if_neg e2, if_neg (by omega)]
          case measure => simp [intOf]; omega
        · go_wp2
          go_ret
          exact ⟨rfl, hrow.congr fun i hi => by unfold strC; rw [if_pos (by omega)], hbel⟩

/-- Does the list P (n long) begin the list Q (m long)? -/
def Con (n : Nat) (P : Nat → ByteArray) (m : Nat) (Q : Nat → ByteArray) : Prop := n ≤ m ∧ ∀ i, i < n → P i = Q i
def Tells (p : Prop) (e : Ending) : Prop := ∃ b, e = .returned (.bool b) ∧ (b = true ↔ p)
theorem tells_no {p : Prop} (h : ¬ p) : Tells p (.returned (.bool false)) := ⟨false, rfl, ⟨fun h => (by cases h), fun q => absurd q h⟩⟩
theorem tells_yes {p : Prop} (h : p) : Tells p (.returned (.bool true)) := ⟨true, rfl, ⟨fun _ => h, fun _ => rfl⟩⟩
theorem toList_inj {s t : ByteArray} : (s.toList == t.toList) = decide (s = t) := by
  rw [Bool.eq_iff_iff]
  simp only [beq_iff_eq, decide_eq_true_eq]
  constructor
  · intro h
    rw [ByteArray.toList_eq, ByteArray.toList_eq] at h
    cases s; cases t
    congr 1
    exact Array.toList_inj.1 h
  · intro h; rw [h]

set_option maxHeartbeats 1000000 in
theorem con_any (a0 a1 : Option Addr) (n c0 m c1 : Nat) (P Q : Nat → ByteArray) (hn : n ≤ 1048576) (hm : m ≤ 1048576) (w : World) (h0 : StrsAt w a0 n P) (h1 : StrsAt w a1 m Q) :
    Calls Try.prog 8 #[.slice a0 n c0, .slice a1 m c1] w fun e w' => Tells (Con n P m Q) e ∧ Below w.heap.size w w' := by
  by_cases hlt : m < n
  · go_enter Try.func8, Try.ntmps8
    go_wp2
    go_ret
    exact ⟨tells_no fun h => by have := h.1; omega, Below.refl _ _⟩
  have dl : decide ((m : Int) < (n : Int)) = false := decide_eq_false (by omega)
  go_enter Try.func8, Try.ntmps8
  go_wp2
  go_loopw [13] (fun i wr => ∃ j : Nat, j ≤ n ∧ i = .int .i64 j ∧ (∀ i, i < j → P i = Q i) ∧ Below w.heap.size w wr) (fun i _ => n - (intOf i).toNat)
  case atStart => exact ⟨0, by omega, rfl, fun i hi => absurd hi (by omega), Below.refl _ _⟩
  case round =>
    obtain ⟨j, hj, rfl, heq, hbel⟩ := hrel
    have HE : Hid (∀ i, i < j → P i = Q i) := heq
    clear heq
    by_cases hjn : j < n
    · obtain ⟨b, off, rfl, hc0, hb0⟩ := h0 j hjn
      obtain ⟨b', off', rfl, hc1, hb1⟩ := h1 j (by omega)
      have e0 : wr.cell? ⟨b, off + j, none⟩ = some (.string (P j)) := (hbel.cell (by exact hb0)).trans hc0
      have e1 : wr.cell? ⟨b', off' + j, none⟩ = some (.string (Q j)) := (hbel.cell (by exact hb1)).trans hc1
      clear h0 h1 hc0 hc1
      have hjm : (j : Int) < (m : Int) := by omega
      by_cases q : P j = Q j
      · have hq : ((P j).toList == (Q j).toList) = true := by rw [toList_inj]; exact decide_eq_true q
        have HQ : Hid _ := q
        clear q
        go_wp2
        go_quiet (fail)
        go_wp2
        go_roundw
        case rel =>
          refine ⟨j + 1, by omega, by go_num, fun i hi => ?_, below_drewN hbel _⟩
          by_cases e : i = j
          · subst e; exact HQ.out
          · exact HE.out i (by omega)
        case measure => simp [intOf]; omega
      · have hq : ((P j).toList == (Q j).toList) = false := by rw [toList_inj]; exact decide_eq_false q
        go_wp2
        go_quiet (fail)
        go_wp2
        go_ret
        exact ⟨tells_no fun h => q (h.2 j hjn), below_drewN hbel _⟩
    · go_wp2
      go_ret
      exact ⟨tells_yes ⟨by omega, fun i hi => HE.out i (by omega)⟩, hbel⟩

set_option maxHeartbeats 1000000 in
theorem eq_any (a0 a1 : Option Addr) (n c0 m c1 : Nat) (P Q : Nat → ByteArray) (hn : n ≤ 1048576) (hm : m ≤ 1048576) (w : World) (h0 : StrsAt w a0 n P) (h1 : StrsAt w a1 m Q) :
    Calls Try.prog 10 #[.slice a0 n c0, .slice a1 m c1] w fun e w' => Tells (n = m ∧ ∀ i, i < n → P i = Q i) e ∧ Below w.heap.size w w' := by
  by_cases hnm : n = m
  case neg =>
    have dn : ((n : Int) != (m : Int)) = true := by rw [bne_iff_ne]; omega
    go_enter Try.func10, Try.ntmps10
    go_wp2
    go_ret
    exact ⟨tells_no fun h => hnm h.1, Below.refl _ _⟩
  have dn : ((n : Int) != (m : Int)) = false := by rw [bne_eq_false_iff_eq]; omega
  have HNM : Hid _ := hnm
  have hnm1 : n ≤ m := by omega
  clear hnm
  go_enter Try.func10, Try.ntmps10
  go_wp2
  go_loopw [5] (fun i wr => ∃ j : Nat, j ≤ n ∧ i = .int .i64 j ∧ (∀ i, i < j → P i = Q i) ∧ Below w.heap.size w wr) (fun i _ => n - (intOf i).toNat)
  case atStart => exact ⟨0, by omega, rfl, fun i hi => absurd hi (by omega), Below.refl _ _⟩
  case round =>
    obtain ⟨j, hj, rfl, heq, hbel⟩ := hrel
    have HE : Hid (∀ i, i < j → P i = Q i) := heq
    clear heq
    by_cases hjn : j < n
    · obtain ⟨b, off, rfl, hc0, hb0⟩ := h0 j hjn
      obtain ⟨b', off', rfl, hc1, hb1⟩ := h1 j (by omega)
      have e0 : wr.cell? ⟨b, off + j, none⟩ = some (.string (P j)) := (hbel.cell (by exact hb0)).trans hc0
      have e1 : wr.cell? ⟨b', off' + j, none⟩ = some (.string (Q j)) := (hbel.cell (by exact hb1)).trans hc1
      clear h0 h1 hc0 hc1
      have hjm : (j : Int) < (m : Int) := by omega
      by_cases q : P j = Q j
      · have hq : ((P j).toList == (Q j).toList) = true := by rw [toList_inj]; exact decide_eq_true q
        have HQ : Hid _ := q
        clear q
        go_wp2
        go_quiet (fail)
        go_wp2
        go_roundw
        case rel =>
          refine ⟨j + 1, by omega, by go_num, fun i hi => ?_, below_drewN hbel _⟩
          by_cases e : i = j
          · subst e; exact HQ.out
          · exact HE.out i (by omega)
        case measure => simp [intOf]; omega
      · have hq : ((P j).toList == (Q j).toList) = false := by rw [toList_inj]; exact decide_eq_false q
        go_wp2
        go_quiet (fail)
        go_wp2
        go_ret
        exact ⟨tells_no fun h => q (h.2 j hjn), below_drewN hbel _⟩
    · go_wp2
      go_ret
      exact ⟨tells_yes ⟨HNM.out, fun i hi => HE.out i (by omega)⟩, hbel⟩

/-- 'copy' of n strings into a row of n that the call has just made. -/
theorem copy_strs {ops : Array Oper} {rest : List Oper} {o : Oper} {a : Act} {Q : Exit → Act → World → Prop} (X : World) (hgd : o.guard = none) (d s : Operand)
    (ho : o.op = .call { callee := .builtin .copy, args := #[d, s], argTypes := #[22, 22] }) (n c : Nat) (sp : Option Addr) (S : Nat → ByteArray)
    (hd : a.eval d = .slice (some ⟨X.heap.size, 0, none⟩) n n) (hs : a.eval s = .slice sp n c) (hsrc : StrsAt X sp n S)
    (h : ∀ w', Hid (w'.rowIs X.heap.size 9 n (strC S)) → Below X.heap.size X w' → wpList Try.prog ops Q rest (a.put o.dst (goInt n)) w') :
    wpList Try.prog ops Q (o :: rest) a (X.alloc (.cells (madeCells #[.string ByteArray.empty] n) 9)) := by
  obtain ⟨i9, hi9, hz9, hsz9, hby9⟩ := info_parts Try.info9
  have hlen : ((List.range n).map fun i => Value.string (S i)).length = n := by simp
  have hbel : Below X.heap.size X (X.alloc (.cells (madeCells #[.string ByteArray.empty] n) 9)) := (Below.refl _ _).alloc (Nat.le_refl _) _
  refine wpList_copy_splice hgd d s 22 22 ho 9 Try.underlying22 (by rw [hi9]; simp [hsz9]) (some ⟨X.heap.size, 0, none⟩) sp n n n c hd hs X.heap.size 0 (madeCells #[.string ByteArray.empty] n).toList 9
    (by rw [heap_alloc_new]) ((List.range n).map fun i => Value.string (S i)) (by rw [hlen]; exact (Nat.min_self n).symm) ?_ (by rw [hlen, toList_madeCells_one]; simp) ?_ X.heap.size X hbel (Nat.le_refl _) ?_
  · intro hpos
    rw [hlen] at hpos
    obtain ⟨b, off, e, _, _⟩ := hsrc 0 hpos
    refine ⟨rfl, _, e, fun j v hj => ?_⟩
    have hjn : j < n := by
      have := (List.getElem?_eq_some_iff.1 hj).1
      rwa [hlen] at this
    obtain ⟨b', off', e', hc, hl⟩ := hsrc j hjn
    rw [e] at e'; injection e' with e'; injection e' with e1 e2; subst e1; subst e2
    have hv : v = .string (S j) := by simp [hjn] at hj; exact hj.symm
    rw [hv, add_plain, World.cell?_alloc_past _ _ _ hl]
    exact hc
  · intro v hv
    simp at hv
    obtain ⟨i, _, rfl⟩ := hv
    rfl
  · intro w' hg' hb'
    rw [hlen]
    refine h w' ?_ hb'
    refine ⟨_, hg'.out, ?_, fun i hi => ?_⟩
    · simp [splice, toList_madeCells_one]
    · simp [splice, toList_madeCells_one, hi, strC]
end Go.Proofs.Qxb6632321a
