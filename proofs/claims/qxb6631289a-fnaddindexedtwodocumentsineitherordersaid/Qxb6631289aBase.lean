import Derived.Test.Qxb6631289aRows
import Derived.WalkKit
import Derived.ProofKit
import Derived.OpenShut
import Derived.ShutString
import Derived.ChangeOld
import Derived.Below
import Derived.Handy
import Derived.WalkSpells
import Derived.WalkLawsBesides
import Derived.BigQuiet
import Derived.Deep.QuietTactic
import Derived.Deep.Slices
import Derived.Deep.SlicePairs
import Derived.Deep.OwnRows
namespace Go.Proofs.Qxb6631289a
open Go.ChangeShapes Go.WideShapes Go.ChangeAt Go.RowKit

/-- Some bool. -/
def AnyB (e : Ending) : Prop := ∃ b, e = .returned (.bool b)
theorem anyB (b : Bool) : AnyB (.returned (.bool b)) := ⟨b, rfl⟩

set_option maxHeartbeats 400000 in
theorem bytes_any (a0 a4 : Option Addr) (l0 c0 l4 c4 : Nat) (x1 x2 x3 : Int) (h0 : l0 ≤ maxLen) (h4 : l4 ≤ maxLen) (w : World) :
    Calls Try.prog 5 #[.slice a0 l0 c0, .int .i64 x1, .int .i64 x2, .int .i64 x3, .slice a4 l4 c4] w fun e w' => AnyB e ∧ w' = w := by
  unfold maxLen at h0 h4
  go_enter Try.func5, Try.ntmps5
  go_wp2
  all_goals (go_ret; exact ⟨⟨_, rfl⟩, rfl⟩)

set_option maxHeartbeats 400000 in
theorem reach_any (a : Option Addr) (len cap : Nat) (zs : Nat → Int) (d t : Int) (hl : len ≤ 4096) (w : World)
    (hc : ∀ i, i < len → ∃ b off, a = some ⟨b, off, none⟩ ∧ w.cell? ⟨b, off + i, none⟩ = some (.int .i64 (zs i))) :
    Calls Try.prog 6 #[.slice a len cap, .int .i64 d, .int .i64 t] w fun e w' => AnyB e ∧ w' = w := by
  by_cases h1 : d < 0
  · go_enter Try.func6, Try.ntmps6
    go_wp2
    go_ret; exact ⟨⟨_, rfl⟩, rfl⟩
  by_cases h2 : t < 0
  · go_enter Try.func6, Try.ntmps6
    go_wp2
    go_ret; exact ⟨⟨_, rfl⟩, rfl⟩
  go_enter Try.func6, Try.ntmps6
  go_wp2
  go_loop [7] (fun i => ∃ k : Nat, k ≤ len ∧ i = .int .i64 k) (fun i => len - (intOf i).toNat)
  case atStart => exact ⟨0, Nat.zero_le _, rfl⟩
  case round =>
    obtain ⟨k, hk, rfl⟩ := hrel
    by_cases hlt : k < len
    · obtain ⟨b, off, rfl, hcell⟩ := hc k hlt
      clear hc
      go_wp2
      · go_ret; exact ⟨⟨_, rfl⟩, rfl⟩
      · go_round
        case rel => exact ⟨k + 1, by omega, by go_num⟩
        case measure => simp [intOf]; omega
      · go_ret; exact ⟨⟨_, rfl⟩, rfl⟩
    · go_wp2
      go_ret; exact ⟨⟨_, rfl⟩, rfl⟩

/-- The first m terms are terms of n, each once. -/
def Dist (T : Nat → Int) (n m : Nat) : Prop := ∀ j, j < m → 0 ≤ T j ∧ T j < n ∧ ∀ i, i < j → T i ≠ T j
/-- Has term i been met among the first m? -/
def hldB (T : Nat → Int) : Nat → Nat → Bool
  | 0, _ => false
  | m + 1, i => if T m = i then true else hldB T m i
def DistRes (T : Nat → Int) (n m : Nat) (e : Ending) : Prop := ∃ b, e = .returned (.bool b) ∧ (b = true → Dist T n m)

theorem hldB_true (T : Nat → Int) : ∀ m i, hldB T m i = true ↔ ∃ j, j < m ∧ T j = i := by
  intro m i
  induction m with
  | zero => simp [hldB]
  | succ m ih =>
    unfold hldB
    by_cases h : T m = i
    · simp only [h, if_true, true_iff]; exact ⟨m, by omega, h⟩
    · rw [if_neg h, ih]
      constructor
      · rintro ⟨j, hj, e⟩; exact ⟨j, by omega, e⟩
      · rintro ⟨j, hj, e⟩
        by_cases hjm : j = m
        · subst hjm; exact absurd e h
        · exact ⟨j, by omega, e⟩

theorem dist_succ {T : Nat → Int} {n k : Nat} (h : Dist T n k) (h0 : 0 ≤ T k) (h1 : T k < n) (hs : hldB T k (T k).toNat = false) : Dist T n (k + 1) := by
  intro j hj
  by_cases hjk : j = k
  · subst hjk
    refine ⟨h0, h1, fun i hi e => ?_⟩
    have : hldB T j (T j).toNat = true := (hldB_true T j _).2 ⟨i, hi, by omega⟩
    rw [hs] at this; cases this
  · exact h j (by omega)

theorem Try.info4 : (Try.prog.info? 4).map (fun i => (i.zero, i.size, i.bytes)) = some (some (.bool false), 1, 1) := by kernel_rfl
theorem Try.info3 : (Try.prog.info? 3).map (fun i => (i.zero, i.size, i.bytes)) = some (some (.int .i64 0), 1, 8) := by kernel_rfl
theorem Try.info53 : (Try.prog.info? 53).map (fun i => (i.zero, i.size, i.bytes)) = some (some (.agg #[.int .i64 0, .int .i64 0]), 2, 16) := by kernel_rfl

set_option maxHeartbeats 400000 in
theorem distinct_any (a : Option Addr) (m cap n : Nat) (T : Nat → Int) (hm : m ≤ 4096) (hn : n ≤ 4096) (w : World)
    (hc : ∀ i, i < m → ∃ b off, a = some ⟨b, off, none⟩ ∧ w.cell? ⟨b, off + i * 2, none⟩ = some (.int .i64 (T i)) ∧ b < w.heap.size) :
    Calls Try.prog 7 #[.slice a m cap, .int .i64 n] w fun e w' => DistRes T n m e ∧ Below w.heap.size w w' := by
  have hmk := run_make_row' (P := Try.prog) 43 4 (.bool false) 1 Try.underlying43 Try.info4 rfl .i64 .i64 n (by omega) (by omega)
  go_enter Try.func7, Try.ntmps7
  go_wp2
  clear hmk
  go_loopw [6] (fun i wr => ∃ k : Nat, k ≤ m ∧ i = .int .i64 k ∧ Below w.heap.size w wr ∧ wr.rowIs w.heap.size 4 n (fun i => .bool (hldB T k i)) ∧ Dist T n k) (fun i _ => m - (intOf i).toNat)
  case atStart => exact ⟨0, Nat.zero_le _, rfl, (Below.refl _ _).alloc (Nat.le_refl _) _, World.rowIs_made w (.bool false) n 4, fun j hj => absurd hj (by omega)⟩
  case round =>
    obtain ⟨k, hk, rfl, hbel, hrow, hdist⟩ := hrel
    by_cases hlt : k < m
    · obtain ⟨b, off, rfl, hcell, hb⟩ := hc k hlt
      clear hc
      have hcell' : wr.cell? ⟨b, off + k * 2, none⟩ = some (.int .i64 (T k)) := (hbel.cell (by exact hb)).trans hcell
      by_cases t0 : T k < 0
      · go_wp2
        go_ret; exact ⟨⟨_, rfl, fun h => by cases h⟩, hbel⟩
      by_cases t1 : T k < n
      · have hr := hrow.cell (i := (T k).toNat) (by omega)
        have hf := hrow.frozen (T k).toNat
        go_wp2
        · go_ret; exact ⟨⟨_, rfl, fun h => by cases h⟩, hbel⟩
        · have hnew : hldB T k (T k).toNat = false := by assumption
          go_roundw
          case rel =>
            refine ⟨k + 1, by omega, by go_num, hbel.setCell (Nat.le_refl _) _, (hrow.set _ _).congr fun i _ => ?_, dist_succ hdist (by omega) t1 hnew⟩
            simp only [hldB]
            by_cases e : i = (T k).toNat
            · rw [if_pos e, if_pos (by omega)]
            · rw [if_neg e, if_neg (by omega)]
          case measure => simp [intOf]; omega
      · go_wp2
        go_ret; exact ⟨⟨_, rfl, fun h => by cases h⟩, hbel⟩
    · go_wp2
      go_ret; exact ⟨⟨_, rfl, fun _ => by rw [show m = k by omega]; exact hdist⟩, hbel⟩

/-- What of the old world stands: all blocks but those of S. -/
structure Kept (S : Nat → Prop) (w w' : World) : Prop where
  os : w'.os = w.os
  tape : w'.tape = w.tape
  output : w'.output = w.output
  size : w.heap.size ≤ w'.heap.size
  block : ∀ k, k < w.heap.size → ¬ S k → w'.heap[k]? = w.heap[k]?

namespace Kept
variable {S : Nat → Prop} {w w' w'' : World}
theorem refl (S : Nat → Prop) (w : World) : Kept S w w := ⟨rfl, rfl, rfl, Nat.le_refl _, fun _ _ _ => rfl⟩
theorem trans (h : Kept S w w') (k : Kept S w' w'') : Kept S w w'' :=
  ⟨k.os.trans h.os, k.tape.trans h.tape, k.output.trans h.output, Nat.le_trans h.size k.size, fun i hi hs => (k.block i (Nat.lt_of_lt_of_le hi h.size) hs).trans (h.block i hi hs)⟩
theorem trans' {S' : Nat → Prop} (h : Kept S w w') (k : Kept S' w' w'') (hs : ∀ i, i < w.heap.size → S' i → S i) : Kept S w w'' :=
  ⟨k.os.trans h.os, k.tape.trans h.tape, k.output.trans h.output, Nat.le_trans h.size k.size, fun i hi hn => (k.block i (Nat.lt_of_lt_of_le hi h.size) (fun q => hn (hs i hi q))).trans (h.block i hi hn)⟩
theorem drew (h : Kept S w w') : Kept S w w'.drew := ⟨h.os, h.tape, h.output, h.size, h.block⟩
theorem alloc (h : Kept S w w') (o : Obj) : Kept S w (w'.alloc o) :=
  h.trans ⟨rfl, rfl, rfl, by rw [Deep.nblk_alloc]; omega, fun k hk _ => Deep.blk_alloc_lt _ _ _ hk⟩
theorem setCell (h : Kept S w w') {a : Addr} (ha : a.block < w.heap.size → S a.block) (v : Value) : Kept S w (w'.setCell a v) :=
  h.trans' (S' := fun k => k = a.block) ⟨rfl, rfl, rfl, by rw [Deep.nblk_setCell]; exact Nat.le_refl _, fun k _ hs => Deep.blk_setCell_other _ _ _ _ hs⟩ (fun i hi e => by subst e; exact ha hi)
theorem below {B : Nat} (h : Kept S w w') (hB : B ≤ w.heap.size) (hS : ∀ k, k < B → ¬ S k) : Below B w w' := ⟨h.os, h.tape, h.output, h.size, fun k hk => h.block k (by omega) (hS k hk)⟩
theorem cell (h : Kept S w w') {p : Addr} (hp : p.block < w.heap.size) (hs : ¬ S p.block) : w'.cell? p = w.cell? p := World.cell?_of_block (w := w) (h.block _ hp hs)
theorem frozen (h : Kept S w w') {p : Addr} (hp : p.block < w.heap.size) (hs : ¬ S p.block) : w'.frozen? p = w.frozen? p := World.frozen?_of_block (w := w) (h.block _ hp hs)
theorem row (h : Kept S w w') {b : Nat} {t : TypeId} {n : Nat} {f : Nat → Value} (hr : w.rowIs b t n f) (hs : ¬ S b) : w'.rowIs b t n f := hr.of_block (h.block _ hr.lt hs)
end Kept


theorem eql22 (a : Option Addr) (n c : Nat) (w : World) : (binOp .eql 22 (.slice a n c) (.slice none 0 0)).run Try.prog w = .ok (.bool a.isNone) w := Lib.run_eql_slice_nil w 22 3 a n c 0 0 Try.underlying22
theorem eql23 (a : Option Addr) (n c : Nat) (w : World) : (binOp .eql 23 (.slice a n c) (.slice none 0 0)).run Try.prog w = .ok (.bool a.isNone) w := Lib.run_eql_slice_nil w 23 45 a n c 0 0 Try.underlying23
theorem neq22 (a : Option Addr) (n c : Nat) (w : World) : (binOp .neq 22 (.slice a n c) (.slice none 0 0)).run Try.prog w = .ok (.bool (!a.isNone)) w := run_neq_slice_nil_any w 22 3 a n c 0 0 Try.underlying22
attribute [local go_sem] eql22 eql23 neq22

set_option maxHeartbeats 400000 in
theorem clone_nil (w : World) : Calls Try.prog 8 #[.slice none 0 0] w fun e w' => e = .returned (.slice none 0 0) ∧ w' = w := by
  go_enter Try.func8, Try.ntmps8
  go_wp2
  go_ret; exact ⟨rfl, rfl⟩

set_option maxHeartbeats 400000 in
theorem clone_some (ad : Addr) (n cap : Nat) (Z : Nat → Int) (hn : n ≤ 4096) (w : World)
    (hc : ∀ i, i < n → ∃ b off, ad = ⟨b, off, none⟩ ∧ w.cell? ⟨b, off + i, none⟩ = some (.int .i64 (Z i)) ∧ b < w.heap.size) :
    Calls Try.prog 8 #[.slice (some ad) n cap] w fun e w' => e = .returned (.slice (some ⟨w.heap.size, 0, none⟩) n n) ∧ w'.rowIs w.heap.size 3 n (fun i => .int .i64 (Z i)) ∧ Below w.heap.size w w' := by
  have hmk := run_make_row' (P := Try.prog) 22 3 (.int .i64 0) 8 Try.underlying22 Try.info3 rfl .i64 .i64 n (by omega) (by omega)
  go_enter Try.func8, Try.ntmps8
  go_wp2
  clear hmk
  go_loopw [4] (fun i wr => ∃ k : Nat, k ≤ n ∧ i = .int .i64 k ∧ Below w.heap.size w wr ∧ wr.rowIs w.heap.size 3 n (fun i => .int .i64 (if i < k then Z i else 0))) (fun i _ => n - (intOf i).toNat)
  case atStart => exact ⟨0, Nat.zero_le _, rfl, (Below.refl _ _).alloc (Nat.le_refl _) _, World.rowIs_made w (.int .i64 0) n 3⟩
  case round =>
    obtain ⟨k, hk, rfl, hbel, hrow⟩ := hrel
    by_cases hlt : k < n
    · obtain ⟨b, off, rfl, hcell, hb⟩ := hc k hlt
      clear hc
      have hcell' : wr.cell? ⟨b, off + k, none⟩ = some (.int .i64 (Z k)) := (hbel.cell (by exact hb)).trans hcell
      have hr := hrow.cell (i := k) hlt
      have hf := hrow.frozen k
      go_wp2
      go_roundw
      case rel =>
        refine ⟨k + 1, by omega, by go_num, hbel.setCell (Nat.le_refl _) _, (hrow.set _ _).congr fun i _ => ?_⟩
        by_cases e : i = k
        · subst e; rw [if_pos rfl, if_pos (by omega)]
        · simp only [if_neg e]
          by_cases e2 : i < k
          · rw [if_pos e2, if_pos (by omega)]
          · rw [if_neg e2, if_neg (by omega)]
      case measure => simp [intOf]; omega
    · go_wp2
      go_ret
      exact ⟨rfl, hrow.congr fun i hi => by rw [if_pos (by omega)], hbel⟩

/-- A Field in block F: its holding, documents and tokens. -/
def FldAt (w : World) (F : Nat) (v : Value) (d t : Int) : Prop := ∃ f, w.rowIs F 52 14 f ∧ f 11 = v ∧ f 12 = .int .i64 d ∧ f 13 = .int .i64 t

set_option maxHeartbeats 400000 in
theorem newField_any (a : Option Addr) (n c : Nat) (d t : Int) (w : World) : Calls Try.prog 9 #[.slice a n c, .int .i64 d, .int .i64 t] w fun e w' => e = .returned (.pointer (some ⟨w.heap.size, 0, none⟩)) ∧
    FldAt w' w.heap.size (.slice a n c) d t ∧ Below w.heap.size w w' := by
  go_enter Try.func9, Try.ntmps9
  go_wp2
  go_ret
  refine ⟨rfl, ⟨fun i => #[.float .f64 0, .float .f64 0, .string ⟨#[]⟩, .bool false, .bool false, .bool false, .string ⟨#[]⟩, .int .i64 0, .bool false, .map none, .slice none 0 0, .slice a n c, .int .i64 d, .int .i64 t].getD i (.bool false), World.rowIs_alloc w _ 52 _ ?_, rfl, rfl, rfl⟩, (Below.refl _ _).alloc (Nat.le_refl _) _⟩
  intro i hi
  rw [Array.getD_eq_getD_getElem?, Array.getElem?_eq_getElem hi]
  rfl

/-- Of the slice of pairs (two cells each) at b, off: terms T, counts C. -/
def PairsAt (w : World) (a : Option Addr) (m : Nat) (T C : Nat → Int) : Prop :=
  ∀ i, i < m → ∃ b off, a = some ⟨b, off, none⟩ ∧ w.cell? ⟨b, off + i * 2, none⟩ = some (.int .i64 (T i)) ∧ w.cell? ⟨b, off + i * 2 + 1, none⟩ = some (.int .i64 (C i)) ∧ b < w.heap.size

def pairC (T C : Nat → Int) (k i : Nat) : Value := .int .i64 (if i / 2 < k then (if i % 2 = 0 then T (i / 2) else C (i / 2)) else 0)

theorem pairC_succ (T C : Nat → Int) (k i : Nat) : (if i = k * 2 + 1 then .int .i64 (C k) else if i = k * 2 then .int .i64 (T k) else pairC T C k i) = pairC T C (k + 1) i := by
  unfold pairC
  by_cases h1 : i = k * 2 + 1
  · subst h1
    rw [if_pos rfl, show (k * 2 + 1) / 2 = k by omega, if_pos (by omega), if_neg (by omega)]
  · rw [if_neg h1]
    by_cases h0 : i = k * 2
    · subst h0
      rw [if_pos rfl, show k * 2 / 2 = k by omega, if_pos (by omega), if_pos (by omega)]
    · rw [if_neg h0]
      by_cases h : i / 2 < k
      · rw [if_pos h, if_pos (show i / 2 < k + 1 by omega)]
      · rw [if_neg h, if_neg (show ¬ i / 2 < k + 1 by omega)]

theorem terms_nil (w : World) : Calls Try.prog 11 #[.slice none 0 0] w fun e w' => e = .returned (.slice none 0 0) ∧ w' = w := by
  go_enter Try.func11, Try.ntmps11
  go_wp2
  go_ret; exact ⟨rfl, rfl⟩

theorem made53 (n : Nat) (hn : n ≤ 4096) (w : World) : (Instr.makeSlice 33 (.int .i64 (n : Int)) (.int .i64 (n : Int))).run Try.prog w = .ok (.slice (some ⟨w.heap.size, 0, none⟩) n n) (w.alloc (.cells (madeCells #[.int .i64 0, .int .i64 0] (n * 2)) 53)) := by
  obtain ⟨i, hi, hzz⟩ := Option.map_eq_some_iff.1 Try.info53
  simp only [Prod.mk.injEq] at hzz
  obtain ⟨hz, hs, hb⟩ := hzz
  have hr := run_make (P := Try.prog) w 33 53 i _ Try.underlying33 hi hz .i64 .i64 n n (by omega) (Int.le_refl _) (by rw [hb]; omega) (by omega)
  rw [hs] at hr
  simpa [Value.cells] using hr

theorem madeRow (n : Nat) (T C : Nat → Int) (w : World) : (w.alloc (.cells (madeCells #[.int .i64 0, .int .i64 0] (n * 2)) 53)).rowIs w.heap.size 53 (n * 2) (pairC T C 0) := by
  refine ⟨_, Deep.blk_alloc_new _ _, size_madeCells _ _, fun i hi => ?_⟩
  have h2 : i % 2 = 0 ∨ i % 2 = 1 := by omega
  rcases h2 with h2 | h2 <;> simp [madeCells, hi, h2, pairC]

set_option maxHeartbeats 400000 in
theorem terms_some (ad : Addr) (m cap : Nat) (T C : Nat → Int) (hm : m ≤ 4096) (w : World) (hc : PairsAt w (some ad) m T C) :
    Calls Try.prog 11 #[.slice (some ad) m cap] w fun e w' => e = .returned (.slice (some ⟨w.heap.size, 0, none⟩) m m) ∧ w'.rowIs w.heap.size 53 (m * 2) (pairC T C m) ∧ Below w.heap.size w w' := by
  have hmk := made53 m hm
  go_enter Try.func11, Try.ntmps11
  go_wp2
  clear hmk
  go_loopw [4] (fun i wr => ∃ k : Nat, k ≤ m ∧ i = .int .i64 k ∧ Below w.heap.size w wr ∧ wr.rowIs w.heap.size 53 (m * 2) (pairC T C k)) (fun i _ => m - (intOf i).toNat)
  case atStart => exact ⟨0, Nat.zero_le _, rfl, (Below.refl _ _).alloc (Nat.le_refl _) _, madeRow m T C w⟩
  case round =>
    obtain ⟨k, hk, rfl, hbel, hrow⟩ := hrel
    by_cases hlt : k < m
    · obtain ⟨b, off, e, hcell, hcell2, hb⟩ := hc k hlt
      injection e with e; subst e
      clear hc
      have hcell' : wr.cell? ⟨b, off + k * 2, none⟩ = some (.int .i64 (T k)) := (hbel.cell (by exact hb)).trans hcell
      have hcell2' : wr.cell? ⟨b, off + k * 2 + 1, none⟩ = some (.int .i64 (C k)) := (hbel.cell (by exact hb)).trans hcell2
      have hr := hrow.cell (i := k * 2) (by omega)
      have hr2 := hrow.cell (i := k * 2 + 1) (by omega)
      have hf := hrow.frozen (k * 2)
      have hf2 := hrow.frozen (k * 2 + 1)
      go_wp2
      go_region
      go_wp2
      go_roundw
      case rel => exact ⟨k + 1, by omega, by go_num, ((hbel.setCell (Nat.le_refl _) _).setCell (Nat.le_refl _) _).drew, (((hrow.set _ _).set _ _).congr fun i _ => pairC_succ T C k i).drew⟩
      case measure => simp [intOf]; omega
    · go_wp2
      go_ret
      exact ⟨rfl, by have e : m = k := by omega
                     subst e; exact hrow, hbel⟩

theorem len_any (x : Int) (v : Value) (_hv : v.cells = #[v]) (w : World) : Calls Try.prog 12 #[.agg #[.int .i64 x, v]] w fun e w' => e = .returned (.int .i64 x) ∧ w' = w.alloc (.cells #[.int .i64 x, v] 31) := by
  go_enter Try.func12, Try.ntmps12
  go_wp2
  go_ret; exact ⟨rfl, rfl⟩

theorem freqs_any (x : Int) (v : Value) (_hv : v.cells = #[v]) (w : World) : Calls Try.prog 15 #[.agg #[.int .i64 x, v]] w fun e w' => e = .returned v ∧ w' = w.alloc (.cells #[.int .i64 x, v] 31) := by
  go_enter Try.func15, Try.ntmps15
  go_wp2
  go_ret; exact ⟨rfl, rfl⟩

theorem docs_any (F : Nat) (v : Value) (d t : Int) (w : World) (h : FldAt w F v d t) : Calls Try.prog 13 #[.pointer (some ⟨F, 0, none⟩)] w fun e w' => e = .returned (.int .i64 d) ∧ w' = w := by
  obtain ⟨f, hrow, e1, e2, e3⟩ := h
  have hc := hrow.cell (i := 12) (by omega)
  rw [e2] at hc
  clear e1 e2 e3
  go_enter Try.func13, Try.ntmps13
  go_wp2
  go_ret; exact ⟨rfl, rfl⟩

theorem toks_any (F : Nat) (v : Value) (d t : Int) (w : World) (h : FldAt w F v d t) : Calls Try.prog 14 #[.pointer (some ⟨F, 0, none⟩)] w fun e w' => e = .returned (.int .i64 t) ∧ w' = w := by
  obtain ⟨f, hrow, e1, e2, e3⟩ := h
  have hc := hrow.cell (i := 13) (by omega)
  rw [e3] at hc
  clear e1 e2 e3
  go_enter Try.func14, Try.ntmps14
  go_wp2
  go_ret; exact ⟨rfl, rfl⟩

theorem hold_any (F : Nat) (v : Value) (d t : Int) (w : World) (h : FldAt w F v d t) : Calls Try.prog 16 #[.pointer (some ⟨F, 0, none⟩)] w fun e w' => e = .returned v ∧ w' = w := by
  obtain ⟨f, hrow, e1, e2, e3⟩ := h
  have hc := hrow.cell (i := 11) (by omega)
  rw [e1] at hc
  clear e1 e2 e3
  go_enter Try.func16, Try.ntmps16
  go_wp2
  go_ret; exact ⟨rfl, rfl⟩

/-- The count of term i among the first m pairs: the last that names it (the pairs' terms are distinct). -/
def frq (T C : Nat → Int) : Nat → Nat → Int
  | 0, _ => 0
  | m + 1, i => if T m = i then C m else frq T C m i

theorem frq_none {T C : Nat → Int} {m i : Nat} (h : hldB T m i = false) : frq T C m i = 0 := by
  induction m with
  | zero => rfl
  | succ m ih =>
    unfold hldB at h
    by_cases e : T m = i
    · rw [if_pos e] at h; cases h
    · rw [if_neg e] at h
      unfold frq; rw [if_neg e]; exact ih h

theorem frq_hit {T C : Nat → Int} {n m i j : Nat} (hd : Dist T n m) (hj : j < m) (e : T j = i) : frq T C m i = C j := by
  induction m with
  | zero => omega
  | succ m ih =>
    unfold frq
    by_cases em : T m = i
    · rw [if_pos em]
      by_cases hjm : j = m
      · rw [hjm]
      · exact absurd (e.trans em.symm) ((hd m (by omega)).2.2 j (by omega))
    · rw [if_neg em]
      refine ih (fun k hk => hd k (by omega)) ?_
      rcases Nat.lt_succ_iff_lt_or_eq.1 hj with h | h
      · exact h
      · subst h; exact absurd e em

set_option maxHeartbeats 400000 in
theorem lookup_any (a : Option Addr) (m cap n : Nat) (i : Nat) (T C : Nat → Int) (hm : m ≤ 4096) (hd : Dist T n m) (w : World) (hc : PairsAt w a m T C) :
    Calls Try.prog 17 #[.slice a m cap, .int .i64 i] w fun e w' => e = .returned (.tuple #[.bool (hldB T m i), .int .i64 (frq T C m i)]) ∧ Below w.heap.size w w' := by
  go_enter Try.func17, Try.ntmps17
  go_wp2
  go_loop [6] (fun x => ∃ k : Nat, k ≤ m ∧ x = .int .i64 k ∧ hldB T k i = false) (fun x => m - (intOf x).toNat)
  case atStart => exact ⟨0, Nat.zero_le _, rfl, rfl⟩
  case round =>
    obtain ⟨k, hk, rfl, hno⟩ := hrel
    by_cases hlt : k < m
    · obtain ⟨b, off, rfl, hcell, hcell2, hb⟩ := hc k hlt
      clear hc
      have HN : Hid (hldB T k i = false) := hno
      clear hno
      by_cases ht : T k = i
      · have hb1 : (T k == (i : Int)) = true := by rw [beq_iff_eq]; exact ht
        have HT : Hid (T k = i) := ht
        clear ht
        go_wp2
        go_quiet (fail)
        go_wp2
        go_ret2
        refine ⟨?_, ⟨rfl, rfl, rfl, Nat.le_refl _, fun _ _ => rfl⟩⟩
        rw [(hldB_true T m i).2 ⟨k, hlt, HT.out⟩, frq_hit hd hlt HT.out]
        rfl
      · have hb1 : (T k == (i : Int)) = false := by rw [beq_eq_false_iff_ne]; exact ht
        have HT : Hid (¬ T k = i) := ht
        clear ht
        go_wp2
        go_round
        case rel => exact ⟨k + 1, by omega, by go_num, by unfold hldB; rw [if_neg HT.out]; exact HN.out⟩
        case measure => simp [intOf]; omega
    · have e : m = k := by omega
      subst e
      have HN : Hid (hldB T m i = false) := hno
      clear hno
      go_wp2
      go_ret2
      refine ⟨?_, ⟨rfl, rfl, rfl, Nat.le_refl _, fun _ _ => rfl⟩⟩
      rw [HN.out, frq_none HN.out]
      rfl
end Go.Proofs.Qxb6631289a
