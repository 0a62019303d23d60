import Derived.Test.Qxb6631289aMid
import Derived.Deep.RegionWith
namespace Go.Proofs.Qxb6631289a
open Go.ChangeShapes Go.WideShapes Go.ChangeAt Go.RowKit
attribute [local go_sem] eql22 eql23 neq22

set_option maxHeartbeats 400000 in
theorem bytes2_any (a0 a4 a6 : Option Addr) (l0 c0 l4 c4 l6 c6 : Nat) (x1 x2 x3 x5 : Int) (h0 : l0 ≤ maxLen) (h4 : l4 ≤ maxLen) (h6 : l6 ≤ maxLen) (w : World) :
    Calls Try.prog 18 #[.slice a0 l0 c0, .int .i64 x1, .int .i64 x2, .int .i64 x3, .slice a4 l4 c4, .int .i64 x5, .slice a6 l6 c6] w fun e w' => AnyB e ∧ w' = w := by
  unfold maxLen at h0 h4 h6
  go_enter Try.func18, Try.ntmps18
  go_wp2
  all_goals (go_ret; exact ⟨⟨_, rfl⟩, rfl⟩)

set_option maxHeartbeats 1000000 in
theorem same_nil (x : Int) (w : World) :
    Calls Try.prog 19 #[.agg #[.int .i64 x, .slice none 0 0], .agg #[.int .i64 x, .slice none 0 0]] w fun e w' => e = .returned (.bool true) ∧ Below w.heap.size w w' := by
  go_enter Try.func19, Try.ntmps19
  go_wp2
  go_region_with (go_at_call 12; refine (len_any x _ rfl _).mono ?_; rintro e w' ⟨rfl, rfl⟩)
  all_goals
    go_wp2_with (go_at_call 15; refine (freqs_any x _ rfl _).mono ?_; rintro e w' ⟨rfl, rfl⟩)
    refine wp_loop_rounds 1 ?_
    rw [rounds_succ]
    go_wp2
    go_ret
    refine ⟨rfl, ?_⟩
    go_grown

theorem loop_bel {w wr : World} (h : Below w.heap.size w wr) {b n : Nat} {t : TypeId} {f : Nat → Value} (hr : w.rowIs b t n f) : wr.rowIs b t n f := hr.of_block (h.block _ hr.lt)

set_option maxHeartbeats 2000000 in
theorem same_some (x : Int) (g g' n : Nat) (f : Nat → Int) (w : World) (hn : n ≤ 4096) (h1 : w.rowIs g 3 n (fun i => .int .i64 (f i))) (h2 : w.rowIs g' 3 n (fun i => .int .i64 (f i))) :
    Calls Try.prog 19 #[.agg #[.int .i64 x, .slice (some ⟨g, 0, none⟩) n n], .agg #[.int .i64 x, .slice (some ⟨g', 0, none⟩) n n]] w fun e w' => e = .returned (.bool true) ∧ Below w.heap.size w w' := by
  go_enter Try.func19, Try.ntmps19
  go_wp2
  go_region_with (go_at_call 12; refine (len_any x _ rfl _).mono ?_; rintro e w' ⟨rfl, rfl⟩)
  all_goals
    go_wp2_with (go_at_call 15; refine (freqs_any x _ rfl _).mono ?_; rintro e w' ⟨rfl, rfl⟩)
    go_loopw [7] (fun i wr => ∃ k : Nat, k ≤ n ∧ i = .int .i64 k ∧ Below w.heap.size w wr) (fun i _ => n - (intOf i).toNat)
    case atStart => refine ⟨0, Nat.zero_le _, rfl, ?_⟩; go_grown
    case round =>
      obtain ⟨k, hk, rfl, hbel⟩ := hrel
      by_cases hlt : k < n
      · have c1 := (loop_bel hbel h1).cell hlt
        have c2 := (loop_bel hbel h2).cell hlt
        go_wp2
        go_quiet (fail)
        go_wp2
        go_roundw
        case rel => exact ⟨k + 1, by omega, by go_num, below_drewN hbel _⟩
        case measure => simp [intOf]; omega
      · go_wp2
        go_ret
        exact ⟨rfl, hbel⟩

theorem same_any (x : Int) (fa fb : Option Addr) (fl gl n m B B' : Nat) (T C : Nat → Int) (w : World) (hn : n ≤ 4096) (h1 : Freq B w fa fl n m T C) (h2 : Freq B' w fb gl n m T C) :
    Calls Try.prog 19 #[.agg #[.int .i64 x, .slice fa fl fl], .agg #[.int .i64 x, .slice fb gl gl]] w fun e w' => e = .returned (.bool true) ∧ Below w.heap.size w w' := by
  rcases h1 with ⟨h0, rfl, rfl⟩ | ⟨h0, e, g, rfl, _, hr⟩
  · rcases h2 with ⟨_, rfl, rfl⟩ | ⟨h3, _⟩
    · exact same_nil x w
    · omega
  · rcases h2 with ⟨h3, _⟩ | ⟨_, e', g', rfl, _, hr'⟩
    · omega
    · rw [e, e']
      exact same_some x g g' n _ w hn hr hr'
end Go.Proofs.Qxb6631289a
