import Derived.Test.Qxb6632220aRows
import Derived.WalkKit
import Derived.ProofKit
import Derived.OpenShut
import Derived.ShutString
import Derived.ChangeOld
import Derived.Below
import Derived.Handy
import Derived.WalkSpells
import Derived.WalkLawsBesides
import Derived.BigQuiet
import Derived.Deep.QuietTactic
import Derived.Deep.OwnRows
import Derived.Test.Qxb6632220aPlain
namespace Go.Proofs.Qxb6632220a
open Go.ChangeShapes Go.WideShapes Go.ChangeAt Go.RowKit

/-- The 32 cells of an address. -/
def adr (A : Nat → Nat) : Array Value := ((List.range 32).map fun i => Value.int .u8 (A i)).toArray
theorem adr_size (A : Nat → Nat) : (adr A).size = 32 := by simp [adr]
theorem adr_get (A : Nat → Nat) {i : Nat} (h : i < 32) : (adr A)[i]? = some (.int .u8 (A i)) := by simp [adr, h]

theorem row_new (X : World) (b n : Nat) (c : Array Value) (t : TypeId) (f : Nat → Value) (hb : b = X.heap.size) (hs : c.size = n) (hc : ∀ i, i < n → c[i]? = some (f i)) : (X.alloc (.cells c t)).rowIs b t n f := by
  subst hb; subst hs; exact World.rowIs_alloc X c t f hc
theorem adr_row (A : Nat → Nat) (w : World) (b : Nat) (hb : b = w.heap.size) (t : TypeId) : (w.alloc (.cells (adr A) t)).rowIs b t 32 (fun i => .int .u8 (A i)) :=
  row_new w b 32 _ t _ hb (adr_size A) fun _ hi => adr_get A hi

set_option maxHeartbeats 400000 in
theorem lz_any (A : Nat → Nat) (hA : ∀ i, i < 32 → A i < 256) (w : World) :
    Calls Try.prog 7 #[.agg (adr A)] w fun e w' => ∃ z, e = .returned (.int .i64 (z : Nat)) ∧ Lead A 32 z ∧ Below w.heap.size w w' := by
  go_enter Try.func7, Try.ntmps7
  go_wp2
  go_loop [3] (fun i => ∃ k : Nat, k ≤ 32 ∧ i = .int .i64 k ∧ ∀ i, i < k → A i = 0) (fun i => 32 - (intOf i).toNat)
  case atStart => exact ⟨0, by omega, rfl, fun i hi => absurd hi (by omega)⟩
  case round =>
    obtain ⟨k, hk, rfl, hz⟩ := hrel
    have HZ : Hid (∀ i, i < k → A i = 0) := hz
    clear hz
    by_cases hlt : k < 32
    · have hc := adr_get A hlt
      have hb := hA k hlt
      clear hA
      by_cases h0 : A k = 0
      · have hb1 : ((A k : Int) == 0) = true := by rw [beq_iff_eq]; omega
        have H0 : Hid (A k = 0) := h0
        clear h0
        go_wp2
        go_round
        case rel =>
          refine ⟨k + 1, by omega, by go_num, fun i hi => ?_⟩
          by_cases e : i = k
          · subst e; exact H0.out
          · exact HZ.out i (by omega)
        case measure => simp [intOf]; omega
      · have hb1 : ((A k : Int) == 0) = false := by rw [beq_eq_false_iff_ne]; omega
        go_wp2
        go_ret
        exact ⟨k, rfl, ⟨hk, HZ.out, .inr h0⟩, (Below.refl _ _).alloc (Nat.le_refl _) _⟩
    · go_wp2
      go_ret
      exact ⟨k, rfl, ⟨hk, HZ.out, .inl (by omega)⟩, (Below.refl _ _).alloc (Nat.le_refl _) _⟩

set_option maxHeartbeats 400000 in
theorem lo_any (s : ByteArray) (hs : s.size ≤ 100) (c : Nat → Nat) (hc : ∀ i (h : i < s.size), (s[i]'h).toNat = c i) (w : World) :
    Calls Try.prog 6 #[.string s] w fun e w' => ∃ z, e = .returned (.int .i64 (z : Nat)) ∧ (z ≤ s.size ∧ (∀ i, i < z → c i = 49) ∧ (z = s.size ∨ c z ≠ 49)) ∧ w' = w := by
  go_enter Try.func6, Try.ntmps6
  go_wp2
  go_loop [3] (fun i => ∃ k : Nat, k ≤ s.size ∧ i = .int .i64 k ∧ ∀ i, i < k → c i = 49) (fun i => s.size - (intOf i).toNat)
  case atStart => exact ⟨0, by omega, rfl, fun i hi => absurd hi (by omega)⟩
  case round =>
    obtain ⟨k, hk, rfl, hz⟩ := hrel
    have HZ : Hid (∀ i, i < k → c i = 49) := hz
    clear hz
    by_cases hlt : k < s.size
    · have hck := hc k hlt
      clear hc
      by_cases h0 : c k = 49
      · have hb1 : ((c k : Int) == 49) = true := by rw [beq_iff_eq]; omega
        have H0 : Hid (c k = 49) := h0
        clear h0
        go_wp2
        go_round
        case rel =>
          refine ⟨k + 1, by omega, by go_num, fun i hi => ?_⟩
          by_cases e : i = k
          · subst e; exact H0.out
          · exact HZ.out i (by omega)
        case measure => simp [intOf]; omega
      · have hb1 : ((c k : Int) == 49) = false := by rw [beq_eq_false_iff_ne]; omega
        go_wp2
        go_ret
        exact ⟨k, rfl, ⟨hk, HZ.out, .inr h0⟩, rfl⟩
    · go_wp2
      go_ret
      exact ⟨k, rfl, ⟨hk, HZ.out, .inl (by omega)⟩, rfl⟩

/-- Where a digit's byte lies. -/
def AlphAt (c d : Nat) : Prop := (49 ≤ c ∧ c ≤ 57 ∧ c = d + 49) ∨ (65 ≤ c ∧ c ≤ 72 ∧ c + 9 = d + 65) ∨ (74 ≤ c ∧ c ≤ 78 ∧ c + 17 = d + 74) ∨ (80 ≤ c ∧ c ≤ 90 ∧ c + 22 = d + 80) ∨ (97 ≤ c ∧ c ≤ 107 ∧ c + 33 = d + 97) ∨ (109 ≤ c ∧ c ≤ 122 ∧ c + 44 = d + 109)
theorem alph_at : ∀ d, d < 58 → AlphAt (alph d) d := by unfold AlphAt; decide

theorem ret_int {k : IntKind} {a b : Int} (h : a = b) : Ending.returned (.int k a) = .returned (.int k b) := by rw [h]

set_option maxHeartbeats 1000000 in
theorem digit_any (c d : Nat) (h : AlphAt c d) (w : World) :
    Calls Try.prog 8 #[.int .u8 c] w fun e w' => e = .returned (.int .i64 d) ∧ w' = w := by
  rcases h with ⟨h1, h2, h3⟩ | ⟨h1, h2, h3⟩ | ⟨h1, h2, h3⟩ | ⟨h1, h2, h3⟩ | ⟨h1, h2, h3⟩ | ⟨h1, h2, h3⟩
  all_goals
    have H3 : Hid _ := h3
    clear h3
    go_enter Try.func8, Try.ntmps8
    go_wp2
    go_ret
    refine ⟨ret_int ?_, rfl⟩
    have := H3.out
    omega

set_option maxHeartbeats 1000000 in
theorem cmpA_any (A B : Nat → Nat) (hA : ∀ i, i < 32 → A i < 256) (hB : ∀ i, i < 32 → B i < 256) (w : World) :
    Calls Try.prog 9 #[.agg (adr A), .agg (adr B)] w fun e w' => e = .returned (.int .i64 (cmpN (pre 256 A 32) (pre 256 B 32))) ∧ Below w.heap.size w w' := by
  go_enter Try.func9, Try.ntmps9
  go_wp2
  go_loopw [5] (fun i wr => ∃ k : Nat, k ≤ 32 ∧ i = .int .i64 k ∧ (∀ i, i < k → A i = B i) ∧ wr.rowIs w.heap.size 22 32 (fun i => .int .u8 (A i)) ∧ wr.rowIs (w.heap.size + 1) 22 32 (fun i => .int .u8 (B i)) ∧ Below w.heap.size w wr) (fun i _ => 32 - (intOf i).toNat)
  case atStart =>
    refine ⟨0, by omega, rfl, fun i hi => absurd hi (by omega), ?_, ?_, ?_⟩
    · exact (adr_row A w _ rfl 22).alloc _
    · exact adr_row B _ _ (by simp) 22
    · go_grown
  case round =>
    obtain ⟨k, hk, rfl, heq, hr1, hr2, hbel⟩ := hrel
    have HE : Hid (∀ i, i < k → A i = B i) := heq
    clear heq
    by_cases hlt : k < 32
    · have c1 := hr1.cell hlt
      have c2 := hr2.cell hlt
      have b1 := hA k hlt
      have b2 := hB k hlt
      rcases Nat.lt_trichotomy (A k) (B k) with h | h | h
      · have ht : decide (A k < B k) = true := decide_eq_true (by omega)
        go_wp2
        go_quiet (fail)
        go_wp2
        go_ret
        exact ⟨ret_int (cmpN_lt (pre_less hA hlt HE.out h)).symm, below_drewN hbel _⟩
      · have H : Hid (A k = B k) := h
        have ht : decide (A k < B k) = false := decide_eq_false (by omega)
        have ht2 : decide (B k < A k) = false := decide_eq_false (by omega)
        clear h
        go_wp2
        go_quiet (fail)
        go_wp2
        go_quiet (fail)
        go_wp2
        go_roundw
        case rel =>
          refine ⟨k + 1, by omega, by go_num, fun i hi => ?_, hr1, hr2, below_drewN hbel _⟩
          by_cases e : i = k
          · subst e; exact H.out
          · exact HE.out i (by omega)
        case measure => simp [intOf]; omega
      · have ht : decide (A k < B k) = false := decide_eq_false (by omega)
        have ht2 : decide (B k < A k) = true := decide_eq_true (by omega)
        go_wp2
        go_quiet (fail)
        go_wp2
        go_quiet (fail)
        go_wp2
        go_ret
        exact ⟨ret_int (cmpN_gt (pre_less hB hlt (fun j hj => (HE.out j hj).symm) h)).symm, below_drewN (below_drewN hbel _) _⟩
    · go_wp2
      go_ret
      exact ⟨ret_int (cmpN_eq (pre_congr fun i hi => HE.out i (by omega))).symm, hbel⟩

set_option maxHeartbeats 1000000 in
/-- cmpShortlex at two texts whose bytes are the digits S and T, greatest first. -/
theorem cmpS_any (x y : ByteArray) (hx : x.size ≤ 100) (hy : y.size ≤ 100) (S T : Nat → Nat) (hS : ∀ i, i < x.size → S i < 58) (hT : ∀ i, i < y.size → T i < 58) (tS : x.size = 0 ∨ S 0 ≠ 0) (tT : y.size = 0 ∨ T 0 ≠ 0)
    (cx : ∀ i (h : i < x.size), (x[i]'h).toNat = alph (S i)) (cy : ∀ i (h : i < y.size), (y[i]'h).toNat = alph (T i)) (w : World) :
    Calls Try.prog 10 #[.string x, .string y] w fun e w' => e = .returned (.int .i64 (cmpN (pre 58 S x.size) (pre 58 T y.size))) ∧ ∃ n, w' = w.drewN n := by
  rcases Nat.lt_trichotomy x.size y.size with hl | hl | hl
  · go_enter Try.func10, Try.ntmps10
    go_wp2
    go_ret
    exact ⟨ret_int (cmpN_lt (short_less (by decide) hS (tT.resolve_left (by omega)) hl)).symm, 0, rfl⟩
  · have g1 : ¬ x.size < y.size := by omega
    have g2 : ¬ y.size < x.size := by omega
    have HL : Hid (x.size = y.size) := hl
    clear hl
    go_enter Try.func10, Try.ntmps10
    go_wp2
    go_loopw [5] (fun i wr => ∃ k : Nat, k ≤ x.size ∧ i = .int .i64 k ∧ (∀ i, i < k → S i = T i) ∧ ∃ n, wr = w.drewN n) (fun i _ => x.size - (intOf i).toNat)
    case atStart => exact ⟨0, by omega, rfl, fun i hi => absurd hi (by omega), 0, rfl⟩
    case round =>
      obtain ⟨k, hk, rfl, heq, nw, rfl⟩ := hrel
      have HE : Hid (∀ i, i < k → S i = T i) := heq
      clear heq
      by_cases hlt : k < x.size
      · have hlt2 : k < y.size := by have := HL.out; omega
        have s1 := hS k hlt
        have s2 := hT k hlt2
        have e1 := cx k hlt
        have e2 := cy k hlt2
        rcases Nat.lt_trichotomy (S k) (T k) with h | h | h
        · have hm := alph_mono _ s1 _ s2 h
          go_wp2
          go_quiet (fail)
          go_wp2
          go_ret
          exact ⟨ret_int (by rw [← HL.out]; exact (cmpN_lt (pre_less hS hlt HE.out h)).symm), _, World.drewN_drewN _ _ _⟩
        · have H : Hid (S k = T k) := h
          have ht : decide (alph (S k) < alph (T k)) = false := decide_eq_false (by rw [h]; omega)
          have ht2 : decide (alph (T k) < alph (S k)) = false := decide_eq_false (by rw [h]; omega)
          clear h
          go_wp2
          go_quiet (fail)
          go_wp2
          go_quiet (fail)
          go_wp2
          go_roundw
          case rel =>
            refine ⟨k + 1, by omega, by go_num, fun i hi => ?_, _, rfl⟩
            by_cases e : i = k
            · subst e; exact H.out
            · exact HE.out i (by omega)
          case measure => simp [intOf]; omega
        · have hm := alph_mono _ s2 _ s1 h
          have ht : decide (alph (S k) < alph (T k)) = false := decide_eq_false (by omega)
          go_wp2
          go_quiet (fail)
          go_wp2
          go_quiet (fail)
          go_wp2
          go_ret
          exact ⟨ret_int (by rw [HL.out]; exact (cmpN_gt (pre_less hT hlt2 (fun j hj => (HE.out j hj).symm) h)).symm), _, (World.drewN_drewN _ _ _).trans (World.drewN_drewN _ _ _)⟩
      · go_wp2
        go_ret
        exact ⟨ret_int (by rw [← HL.out]; exact (cmpN_eq (pre_congr fun i hi => HE.out i (by omega))).symm), _, rfl⟩
  · go_enter Try.func10, Try.ntmps10
    go_wp2
    go_ret
    exact ⟨ret_int (cmpN_gt (short_less (by decide) hT (tS.resolve_left (by omega)) hl)).symm, 0, rfl⟩
end Go.Proofs.Qxb6632220a
