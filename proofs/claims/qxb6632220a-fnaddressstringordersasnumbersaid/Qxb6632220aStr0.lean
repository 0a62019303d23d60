import Derived.Test.Qxb6632220aLeaf
import Derived.Laws.IdiomStrings
namespace Go.Proofs.Qxb6632220a
open Go.ChangeShapes Go.WideShapes Go.ChangeAt Go.RowKit

theorem Try.cells5 : Try.prog.cellsOf 5 = 1 := by kernel_rfl
theorem Try.info5 : (Try.prog.info? 5).map (fun i => (i.zero, i.size, i.bytes)) = some (some (.int .u8 0), 1, 1) := by kernel_rfl
theorem Try.size23 : (Try.prog.info? 23).map (·.size) = some 32 := by kernel_rfl
theorem Try.size22 : (Try.prog.info? 22).map (·.size) = some 32 := by kernel_rfl
theorem index_adr (A : Nat → Nat) (k : Nat) (hk : k < 32) (w : World) : (Instr.index 23 (.agg (adr A)) (.int .i64 (k : Int))).run Try.prog w = .ok (.int .u8 (A k)) w := by
  have h := adr_get A hk
  simp [Instr.index, run_underlying Try.underlying23, asIntOf, hk, part, isAgg, run_underlying Try.underlying5, h]

theorem load_adr {ops : Array Oper} {rest : List Oper} {o : Oper} {a : Act} {w : World} {Q : Exit → Act → World → Prop} (hgd : o.guard = none) (x : Operand) (ty : TypeId) (ho : o.op = .load ty x) (hty : ty = 22 ∨ ty = 23)
    (A : Nat → Nat) (g : Nat) (t : TypeId) (hx : a.eval x = .pointer (some ⟨g, 0, none⟩)) (hg : w.heap[g]? = some (.cells (adr A) t (0, 0)))
    (h : wpList Try.prog ops Q rest (a.put o.dst (.agg (adr A))) w) : wpList Try.prog ops Q (o :: rest) a w := by
  rcases hty with rfl | rfl
  · exact wpList_load_row hgd 22 x ho g hx t (adr A) (0, 0) _ hg Try.underlying22 rfl (by rw [Try.size22, adr_size]) h
  · exact wpList_load_row hgd 23 x ho g hx t (adr A) (0, 0) _ hg Try.underlying23 rfl (by rw [Try.size23, adr_size]) h

/-- Digits as cells. -/
def rowL (D : Nat → Nat) (L : Nat) : List Value := (List.range L).map fun i => Value.int .u8 (D i)
theorem rowL_len (D : Nat → Nat) (L : Nat) : (rowL D L).length = L := by simp [rowL]
theorem rowL_get (D : Nat → Nat) {L i : Nat} (h : i < L) : (rowL D L)[i]? = some (.int .u8 (D i)) := by simp [rowL, h]
theorem rowL_set (D : Nat → Nat) (L i v : Nat) : (rowL D L).set i (.int .u8 v) = rowL (upd D i v) L := by
  apply List.ext_getElem?
  intro j
  rw [List.getElem?_set]
  by_cases h : j < L
  · rw [rowL_get _ h, rowL_get _ h]
    by_cases e : i = j
    · subst e; simp [rowL_len, h, upd]
    · rw [if_neg e, upd_other _ _ _ _ (fun h => e h.symm)]
  · have e1 : (rowL D L)[j]? = none := List.getElem?_eq_none (by rw [rowL_len]; omega)
    have e2 : (rowL (upd D i v) L)[j]? = none := List.getElem?_eq_none (by rw [rowL_len]; omega)
    rw [e1, e2]
    by_cases e : i = j
    · subst e; simp [rowL_len, h]
    · rw [if_neg e]
theorem rowL_push (D : Nat → Nat) (L v : Nat) : rowL D L ++ [.int .u8 v] = rowL (upd D L v) (L + 1) := by
  unfold rowL
  rw [List.range_succ, List.map_append]
  congr 1
  · refine List.map_congr_left fun i hi => ?_
    have := List.mem_range.1 hi
    rw [upd_other _ _ _ _ (by omega)]
  · simp [upd]
theorem rowL_congr {D E : Nat → Nat} {L : Nat} (h : ∀ i, i < L → D i = E i) : rowL D L = rowL E L :=
  List.map_congr_left fun i hi => by rw [h i (List.mem_range.1 hi)]

/-- The digits of the number N of base 58, least first, none of them idle. -/
def Canon (D : Nat → Nat) (L N : Nat) : Prop := (∀ i, i < L → D i < 58) ∧ (L = 0 ∨ D (L - 1) ≠ 0) ∧ vl 58 D L = N

theorem own_shape {w : World} {base : Nat} {e : TypeId} {v : Value} {n : Nat} {xs : List Value} (h : w.ownsRow base e 1 v n xs) : ∃ a cap, v = .slice a n cap ∧ n ≤ cap ∧ cap ≤ maxLen ∧ (0 < n → ∃ g, a = some ⟨g, 0, none⟩) := by
  rcases h.2 with ⟨rfl, rfl⟩ | ⟨g, cap, cur, rfl, _, _, h1, h2, _⟩
  · exact ⟨none, 0, rfl, by omega, by unfold maxLen; omega, fun h => absurd h (by omega)⟩
  · exact ⟨_, _, rfl, h1, h2, fun _ => ⟨g, rfl⟩⟩

/-- What stands of the world while the digits are reckoned: the address in its box; old memory. -/
def Base0 (w wr : World) (A : Nat → Nat) : Prop := wr.heap[w.heap.size]? = some (.cells (adr A) 23 (0, 0)) ∧ Below w.heap.size w wr
/-- The first loop's head: k bytes are read. -/
structure L1 (w wr : World) (A : Nat → Nat) (k : Nat) (v : Value) (L : Nat) (D : Nat → Nat) : Prop where
  own : wr.ownsRow (w.heap.size + 1) 5 1 v L (rowL D L)
  can : Canon D L (pre 256 A k)
  len : L ≤ 2 * k
  base : Base0 w wr A
/-- The second loop's head: j digits are multiplied, cn is carried. -/
structure L2 (w wr : World) (A : Nat → Nat) (k : Nat) (D : Nat → Nat) (L : Nat) (v : Value) (j cn : Nat) (D' : Nat → Nat) : Prop where
  own : wr.ownsRow (w.heap.size + 1) 5 1 v L (rowL D' L)
  small : cn ≤ 255
  lt : ∀ i, i < j → D' i < 58
  same : ∀ i, j ≤ i → D' i = D i
  val : vl 58 D' j + 58 ^ j * cn = 256 * vl 58 D j + A k
  top : 0 < j → D (j - 1) ≠ 0 → 0 < cn
  base : Base0 w wr A
/-- The third loop's head. -/
structure L3 (w wr : World) (A : Nat → Nat) (k : Nat) (v : Value) (L cn : Nat) (D : Nat → Nat) : Prop where
  own : wr.ownsRow (w.heap.size + 1) 5 1 v L (rowL D L)
  small : cn ≤ 255
  lt : ∀ i, i < L → D i < 58
  val : vl 58 D L + 58 ^ L * cn = pre 256 A (k + 1)
  top : cn = 0 → L = 0 ∨ D (L - 1) ≠ 0
  len : L ≤ 2 * k + 2 ∧ (0 < cn → L ≤ 2 * k + 1) ∧ (58 ≤ cn → L ≤ 2 * k)
  base : Base0 w wr A

theorem base_setCell {w wr : World} {A : Nat → Nat} (h : Base0 w wr A) {g j : Nat} (hg : w.heap.size < g) (u : Value) : Base0 w (wr.setCell ⟨g, j, none⟩ u) A :=
  ⟨by rw [Deep.blk_setCell_other _ _ _ _ (by simp; omega)]; exact h.1, h.2.setCell (by simp; omega) _⟩
theorem base_grown {w wr w' : World} {A : Nat → Nat} {row : Option Nat} (h : Base0 w wr A) (hg : wr.grownBy w' row) (hs : w.heap.size < wr.heap.size) (hr : ∀ k, row = some k → w.heap.size < k) : Base0 w w' A :=
  ⟨by rw [hg.block _ hs (fun e => by have := hr _ e.symm; omega)]; exact h.1, h.2.grown hg (by omega) (fun k e => by have := hr k e; omega)⟩

theorem base_append {w wr w1 : World} {A : Nat → Nat} {a : Option Addr} {n cap : Nat} {xs : List Value} {o : Obj} (h : Base0 w wr A) (hown : wr.ownsRow (w.heap.size + 1) 5 1 (.slice a n cap) n xs)
    (hg : (wr.alloc o).grownBy w1 (Value.slice a n cap).ownBlock) (hs : w.heap.size < wr.heap.size) : Base0 w w1 A := by
  have hb : Base0 w (wr.alloc o) A := ⟨by rw [Deep.blk_alloc_lt _ _ _ hs]; exact h.1, h.2.alloc (by omega) _⟩
  exact base_grown hb hg (by rw [Deep.nblk_alloc]; omega) (fun k e => by have := (hown.lt k e).1; omega)

theorem l2_start {w wr : World} {A : Nat → Nat} {k : Nat} {v : Value} {L : Nat} {D : Nat → Nat} (h : L1 w wr A k v L D) (hA : A k < 256) : L2 w wr A k D L v 0 (A k) D :=
  ⟨h.own, by omega, fun i hi => absurd hi (by omega), fun _ _ => rfl, by simp [vl], fun h => absurd h (by omega), h.base⟩

theorem l2_step {w wr : World} {A : Nat → Nat} {k : Nat} {D : Nat → Nat} {L g cap j cn : Nat} {D' : Nat → Nat} (h : L2 w wr A k D L (.slice (some ⟨g, 0, none⟩) L cap) j cn D') (hj : j < L) (hD : D j < 58) (hg : w.heap.size < g) :
    L2 w (wr.setCell ⟨g, j, none⟩ (.int .u8 (((D' j * 256 + cn) % 58 : Nat) : Int))) A k D L (.slice (some ⟨g, 0, none⟩) L cap) (j + 1) ((D' j * 256 + cn) / 58) (upd D' j ((D' j * 256 + cn) % 58)) := by
  have e : D' j = D j := h.same j (Nat.le_refl _)
  have hs := h.small
  refine ⟨?_, ?_, fun i hi => ?_, fun i hi => ?_, ?_, fun _ ht => ?_, base_setCell h.base hg _⟩
  · have := (h.own.stored j (.int .u8 (((D' j * 256 + cn) % 58 : Nat) : Int))).1
    rwa [rowL_set] at this
  · omega
  · by_cases q : i = j
    · subst q; rw [upd_same]; omega
    · rw [upd_other _ _ _ _ q]; exact h.lt i (by omega)
  · rw [upd_other _ _ _ _ (by omega)]; exact h.same i (by omega)
  · rw [e]; exact mul_step h.val
  · rw [Nat.add_sub_cancel] at ht; omega

theorem l3_start {w wr : World} {A : Nat → Nat} {k : Nat} {D : Nat → Nat} {L : Nat} {v : Value} {cn : Nat} {D' : Nat → Nat} (h : L2 w wr A k D L v L cn D') (hc : Canon D L (pre 256 A k)) (hL : L ≤ 2 * k) : L3 w wr A k v L cn D' := by
  obtain ⟨c1, c2, c3⟩ := hc
  refine ⟨h.own, h.small, h.lt, ?_, fun e => ?_, ⟨by omega, fun _ => by omega, fun _ => by omega⟩, h.base⟩
  · rw [h.val, c3]; rfl
  · rcases Nat.eq_zero_or_pos L with q | q
    · exact .inl q
    · have := h.top q (c2.resolve_left (by omega)); omega

theorem l3_step {w wr w' : World} {A : Nat → Nat} {k : Nat} {v v' : Value} {L cn : Nat} {D : Nat → Nat} (h : L3 w wr A k v L cn D) (hc : 0 < cn) (hown : w'.ownsRow (w.heap.size + 1) 5 1 v' (L + 1) (rowL D L ++ [.int .u8 ((cn % 58 : Nat) : Int)])) (hb : Base0 w w' A) :
    L3 w w' A k v' (L + 1) (cn / 58) (upd D L (cn % 58)) := by
  have hs := h.small
  obtain ⟨l1, l2, l3⟩ := h.len
  refine ⟨by rwa [rowL_push] at hown, by omega, fun i hi => ?_, push_step h.val, fun e => .inr ?_, ⟨by omega, fun q => ?_, fun q => ?_⟩, hb⟩
  · by_cases q : i = L
    · subst q; rw [upd_same]; omega
    · rw [upd_other _ _ _ _ q]; exact h.lt i (by omega)
  · rw [Nat.add_sub_cancel, upd_same]; omega
  · have := l3 (by omega); omega
  · omega

theorem l1_next {w wr : World} {A : Nat → Nat} {k : Nat} {v : Value} {L : Nat} {D : Nat → Nat} (h : L3 w wr A k v L 0 D) : L1 w wr A (k + 1) v L D :=
  ⟨h.own, ⟨h.lt, h.top rfl, by have := h.val; simpa using this⟩, by have := h.len.1; omega, h.base⟩

/-- The text's bytes. -/
def chr (z : Nat) (D : Nat → Nat) (L i : Nat) : Nat := if i < z then 49 else alph (D (L - 1 - (i - z)))
/-- The text being made: n bytes E of it, in block G, with room for c; the digits beside it. -/
structure L5 (w wr : World) (dv : Value) (L : Nat) (D : Nat → Nat) (G c n : Nat) (E : Nat → Nat) : Prop where
  dig : wr.ownsRow (w.heap.size + 1) 5 1 dv L (rowL D L)
  ne : dv.ownBlock = none ∨ dv.ownBlock ≠ some G
  txt : wr.ownsRow (w.heap.size + 1) 5 1 (.slice (some ⟨G, 0, none⟩) n c) n (rowL E n)
  bel : Below w.heap.size w wr

theorem l5_start {w wr : World} {dv : Value} {L : Nat} {D : Nat → Nat} {z : Nat} (h : wr.ownsRow (w.heap.size + 1) 5 1 dv L (rowL D L)) (hb : Below w.heap.size w wr) (hs : w.heap.size < wr.heap.size) (hz : z + L ≤ 4096) :
    L5 w (wr.alloc (.cells (madeCells #[.int .u8 0] (z + L)) 5)) dv L D wr.heap.size (z + L) z (fun _ => 0) := by
  refine ⟨h.alloc _, ?_, ⟨by rw [rowL_len]; omega, .inr ⟨_, _, _, rfl, by omega, heap_alloc_new _ _, by omega, by unfold maxLen; omega, by rw [size_madeCells]; omega, ?_⟩⟩, hb.alloc (by omega) _⟩
  · cases q : dv.ownBlock with
    | none => exact .inl rfl
    | some k => right; intro e; injection e with e; have := (h.lt k q).2; omega
  · rw [toList_madeCells_one, Nat.mul_one]
    apply List.ext_getElem?
    intro j
    rw [List.getElem?_take]
    by_cases hj : j < z
    · rw [if_pos hj, rowL_get _ hj]; simp [show j < z + L by omega]
    · rw [if_neg hj, List.getElem?_eq_none (by rw [rowL_len]; omega)]

theorem l5_set {w wr : World} {dv : Value} {L : Nat} {D : Nat → Nat} {G c n : Nat} {E : Nat → Nat} (h : L5 w wr dv L D G c n E) (j v : Nat) :
    L5 w (wr.setCell ⟨G, j, none⟩ (.int .u8 (v : Int))) dv L D G c n (upd E j v) := by
  obtain ⟨t1, t2⟩ := h.txt.stored j (.int .u8 (v : Int))
  have hG := (h.txt.lt G rfl).1
  exact ⟨h.dig.kept t2 h.ne, h.ne, by rwa [rowL_set] at t1, h.bel.setCell (by simp; omega) _⟩

theorem l5_push {w wr w1 : World} {dv : Value} {L : Nat} {D : Nat → Nat} {G c n : Nat} {E : Nat → Nat} {v : Nat} {o : Obj} (h : L5 w wr dv L D G c n E) (hs : w.heap.size < wr.heap.size)
    (hown : w1.ownsRow (w.heap.size + 1) 5 1 (.slice (some ⟨G, 0, none⟩) (n + 1) c) (n + 1) (rowL E n ++ [.int .u8 (v : Int)])) (hg : (wr.alloc o).grownBy w1 (some G)) (hv : E n = v) : L5 w w1 dv L D G c (n + 1) E := by
  have hG := (h.txt.lt G rfl).1
  refine ⟨(h.dig.alloc _).kept hg h.ne, h.ne, ?_, (h.bel.alloc (by omega) _).grown hg (by simp; omega) (fun k e => by injection e with e; omega)⟩
  rw [rowL_push] at hown
  rwa [rowL_congr (D := upd E n v) (E := E)] at hown
  intro i hi
  by_cases q : i = n
  · subst q; rw [upd_same, hv]
  · rw [upd_other _ _ _ _ q]

/-- The text. -/
def txtS (z : Nat) (D : Nat → Nat) (L : Nat) : ByteArray := ⟨((List.range (z + L)).map fun i => UInt8.ofNat (chr z D L i)).toArray⟩
theorem txtS_size (z : Nat) (D : Nat → Nat) (L : Nat) : (txtS z D L).size = z + L := by simp [txtS, ByteArray.size]
theorem chr_lt {z : Nat} {D : Nat → Nat} {L : Nat} (hD : ∀ i, i < L → D i < 58) {i : Nat} (hi : i < z + L) : chr z D L i < 256 := by
  unfold chr
  split
  · omega
  · exact alph_lt _ (hD _ (by omega))
theorem txtS_get {z : Nat} {D : Nat → Nat} {L : Nat} (hD : ∀ i, i < L → D i < 58) (i : Nat) (h : i < (txtS z D L).size) : ((txtS z D L)[i]'h).toNat = chr z D L i := by
  have hi : i < z + L := by rwa [txtS_size] at h
  have e : (txtS z D L)[i]'h = UInt8.ofNat (chr z D L i) := by
    show ((txtS z D L).data[i]'_) = _
    simp [txtS]
  rw [e]
  simp [Nat.mod_eq_of_lt (chr_lt hD hi)]

theorem conv_txt {w wr : World} {dv : Value} {L : Nat} {D : Nat → Nat} {G c z : Nat} (h : L5 w wr dv L D G c (z + L) (chr z D L)) (hD : ∀ i, i < L → D i < 58) :
    (convert 33 9 (.slice (some ⟨G, 0, none⟩) (z + L) c)).run Try.prog wr = .ok (.string (txtS z D L)) wr := by
  have hl : ((List.range (z + L)).map fun i => UInt8.ofNat (chr z D L i)).length = z + L := by simp
  have := run_convert_bytes_back (P := Try.prog) wr 33 9 5 ⟨G, 0, none⟩ c ((List.range (z + L)).map fun i => UInt8.ofNat (chr z D L i)) Try.underlying33 Try.underlying5 Try.underlying9 (fun j hj => by
    rw [hl] at hj
    rw [add_plain, Nat.zero_add, h.txt.cellAt j (by omega), rowL_get _ hj]
    simp [Nat.mod_eq_of_lt (chr_lt hD hj)])
  rw [hl] at this
  exact this

theorem alphS_get : ∀ d, d < 58 → (#[49, 50, 51, 52, 53, 54, 55, 56, 57, 65, 66, 67, 68, 69, 70, 71, 72, 74, 75, 76, 77, 78, 80, 81, 82, 83, 84, 85, 86, 87, 88, 89, 90, 97, 98, 99, 100, 101, 102, 103, 104, 105, 106, 107, 109, 110, 111, 112, 113, 114, 115, 116, 117, 118, 119, 120, 121, 122] : Array UInt8)[d]? = some (UInt8.ofNat (alph d)) := by decide
theorem alph_index (d : Nat) (hd : d < 58) (w : World) : (Instr.index 9 (.string { data := #[49, 50, 51, 52, 53, 54, 55, 56, 57, 65, 66, 67, 68, 69, 70, 71, 72, 74, 75, 76, 77, 78, 80, 81, 82, 83, 84, 85, 86, 87, 88, 89, 90, 97, 98, 99, 100, 101, 102, 103, 104, 105, 106, 107, 109, 110, 111, 112, 113, 114, 115, 116, 117, 118, 119, 120, 121, 122] }) (.int .u8 (d : Int))).run Try.prog w = .ok (.int .u8 (alph d)) w := by
  have h := alphS_get d hd
  have hl := alph_lt d hd
  have e : ({ data := #[49, 50, 51, 52, 53, 54, 55, 56, 57, 65, 66, 67, 68, 69, 70, 71, 72, 74, 75, 76, 77, 78, 80, 81, 82, 83, 84, 85, 86, 87, 88, 89, 90, 97, 98, 99, 100, 101, 102, 103, 104, 105, 106, 107, 109, 110, 111, 112, 113, 114, 115, 116, 117, 118, 119, 120, 121, 122] } : ByteArray)[d]? = some (UInt8.ofNat (alph d)) := by rw [← h]; rfl
  simp only [Instr.index, asIntOf]
  simp [e, run_underlying Try.underlying9, Nat.mod_eq_of_lt hl]

theorem base_cell {w wr : World} {A : Nat → Nat} (h : Base0 w wr A) {k : Nat} (hk : k < 32) : wr.cell? ⟨w.heap.size, k, none⟩ = some (.int .u8 (A k)) := by
  simp [World.cell?, h.1, adr_get A hk]

end Go.Proofs.Qxb6632220a
