import Derived.Test.Qxb6632220aStr
import Derived.Test.Qxb6632220aLawB
import Derived.Stop.BytesEq
namespace Go.Proofs.Qxb6632220a
open Go.ChangeShapes Go.WideShapes Go.ChangeAt Go.RowKit

theorem eq_adr (A : Nat → Nat) (hA : ∀ i, i < 32 → A i < 256) (w : World) : (binOp .eql 22 (.agg (adr A)) (.agg (adr A))).run Try.prog w = .ok (.bool true) w := by
  have e : adr A = (((List.range 32).map fun i => UInt8.ofNat (A i)).map Extern.Stop.cell).toArray := by
    unfold adr
    rw [List.map_map]
    congr 1
    refine List.map_congr_left fun i hi => ?_
    simp [Extern.Stop.cell, Nat.mod_eq_of_lt (hA i (List.mem_range.1 hi))]
  have hs : ∀ w, (sizeOf 5).run Try.prog w = .ok 1 w := fun w => by
    obtain ⟨i5, hi5, _, hsz5, _⟩ := info_parts Try.info5
    simp [sizeOf, typeInfo, hi5, hsz5]
  rw [e, run_eql_bytes w 22 5 32 Try.underlying22 Try.underlying5 hs _ _ (by simp) (by simp)]
  simp

/-- The low byte by a mask. -/
theorem and_byte (n : Int) : bits .and .i64 n 255 = n % 256 := by
  have hm : (BitVec.ofInt 64 255).toNat = 2 ^ 8 - 1 := by decide
  have key : (BitVec.ofInt 64 n &&& BitVec.ofInt 64 255).toNat = (n % ((2 ^ 64 : Nat) : Int)).toNat % 2 ^ 8 := by
    rw [BitVec.toNat_and, BitVec.toNat_ofInt, hm, Nat.and_two_pow_sub_one_eq_mod]
  show IntKind.i64.wrap ((BitVec.ofInt 64 n &&& BitVec.ofInt 64 255).toNat : Nat) = n % 256
  rw [key, IntKind.wrap_i64]
  omega

theorem pre_mono {b : Nat} {S : Nat → Nat} (hb : 0 < b) {t L : Nat} (h : t ≤ L) : pre b S t ≤ pre b S L := by
  induction L with
  | zero => rw [show t = 0 by omega]; exact Nat.le_refl _
  | succ L ih =>
    by_cases e : t = L + 1
    · subst e; exact Nat.le_refl _
    · have := ih (by omega)
      show _ ≤ b * pre b S L + S L
      have : pre b S L ≤ b * pre b S L := Nat.le_mul_of_pos_left _ hb
      omega

/-- The number under way: t digits are read. -/
structure M1 (w wr : World) (A : Nat → Nat) (G : Nat) (S : Nat → Nat) (t : Nat) (C : Nat → Nat) : Prop where
  row : wr.rowIs G 22 32 (fun i => .int .u8 (C i))
  lt : ∀ i, i < 32 → C i < 256
  val : pre 256 C 32 = pre 58 S t
  adr : wr.heap[w.heap.size]? = some (.cells (adr A) 22 (0, 0))
  bel : Below w.heap.size w wr
  lo : w.heap.size < G
/-- u bytes of it are multiplied by 58, c is carried. -/
structure M2 (w wr : World) (A : Nat → Nat) (G : Nat) (C : Nat → Nat) (d u c : Nat) (C' : Nat → Nat) : Prop where
  row : wr.rowIs G 22 32 (fun i => .int .u8 (C' i))
  lt : ∀ i, i < 32 → C' i < 256
  small : c ≤ 57
  same : ∀ i, i + u < 32 → C' i = C i
  val : vl 256 (fun i => C' (31 - i)) u + 256 ^ u * c = 58 * vl 256 (fun i => C (31 - i)) u + d
  adr : wr.heap[w.heap.size]? = some (.cells (adr A) 22 (0, 0))
  bel : Below w.heap.size w wr

theorem m2_start {w wr : World} {A : Nat → Nat} {G : Nat} {S : Nat → Nat} {t : Nat} {C : Nat → Nat} (h : M1 w wr A G S t C) {d : Nat} (hd : d < 58) : M2 w wr A G C d 0 d C :=
  ⟨h.row, h.lt, by omega, fun _ _ => rfl, by simp [vl], h.adr, h.bel⟩

theorem m2_step {w wr : World} {A : Nat → Nat} {G : Nat} {C : Nat → Nat} {d u c : Nat} {C' : Nat → Nat} (h : M2 w wr A G C d u c C') (hu : u < 32) (hG : w.heap.size < G) :
    M2 w (wr.setCell ⟨G, 31 - u, none⟩ (.int .u8 (((C' (31 - u) * 58 + c) % 256 : Nat) : Int))) A G C d (u + 1) ((C' (31 - u) * 58 + c) / 256) (upd C' (31 - u) ((C' (31 - u) * 58 + c) % 256)) := by
  have hc := h.small
  have hl := h.lt (31 - u) (by omega)
  have e : C' (31 - u) = C (31 - u) := h.same _ (by omega)
  refine ⟨(h.row.set _ _).congr fun i _ => ?_, fun i hi => ?_, by omega, fun i hi => ?_, ?_, ?_, h.bel.setCell (by simp; omega) _⟩
  · unfold upd; split <;> rfl
  · by_cases q : i = 31 - u
    · subst q; rw [upd_same]; omega
    · rw [upd_other _ _ _ _ q]; exact h.lt i hi
  · rw [upd_other _ _ _ _ (by omega)]; exact h.same i (by omega)
  · have := mul_step (D := fun i => C (31 - i)) h.val
    rw [e, ← this]
    congr 1
    refine vl_congr fun i hi => ?_
    unfold upd
    by_cases q : i = u
    · subst q; simp
    · rw [if_neg q, if_neg (by omega)]
  · rw [Deep.blk_setCell_other _ _ _ _ (by simp; omega)]; exact h.adr

theorem m1_next {w wr : World} {A : Nat → Nat} {G : Nat} {S : Nat → Nat} {t c : Nat} {C C' : Nat → Nat} (h1 : pre 256 C 32 = pre 58 S t) (h : M2 w wr A G C (S t) 32 c C') (hN : pre 58 S (t + 1) < 256 ^ 32) (hG : w.heap.size < G) :
    c = 0 ∧ M1 w wr A G S (t + 1) C' := by
  have e1 : vl 256 (fun i => C' (31 - i)) 32 = pre 256 C' 32 := (pre_vl 256 C' 32).symm
  have e2 : vl 256 (fun i => C (31 - i)) 32 = pre 256 C 32 := (pre_vl 256 C 32).symm
  have hv := h.val
  rw [e1, e2, h1] at hv
  have e3 : pre 58 S (t + 1) = 58 * pre 58 S t + S t := rfl
  rw [← e3] at hv
  have hc : c = 0 := by
    rcases Nat.eq_zero_or_pos c with q | q
    · exact q
    · have : 256 ^ 32 ≤ 256 ^ 32 * c := Nat.le_mul_of_pos_right _ q
      omega
  subst hc
  exact ⟨rfl, h.row, h.lt, by simpa using hv, h.adr, h.bel, hG⟩

/-- The row is the address. -/
theorem row_adr {w : World} {G : Nat} {C A : Nat → Nat} (h : w.rowIs G 22 32 (fun i => .int .u8 (C i))) (e : ∀ i, i < 32 → C i = A i) : w.heap[G]? = some (.cells (adr A) 22 (0, 0)) := by
  obtain ⟨c, hb, hs, hc⟩ := h
  rw [hb]
  congr 2
  apply Array.ext_getElem?
  intro i
  by_cases hi : i < 32
  · rw [hc i hi, adr_get A hi]
    show some (Value.int .u8 (C i : Int)) = _
    rw [e i hi]
  · rw [Array.getElem?_eq_none (by omega), Array.getElem?_eq_none (by rw [adr_size]; omega)]

theorem zero_row (w : World) (b : Nat) (hb : b = w.heap.size) (c : Array Value) (hc : c = ((List.range 32).map fun _ => Value.int .u8 0).toArray) : (w.alloc (.cells c 22)).rowIs b 22 32 (fun _ => .int .u8 ((0 : Nat) : Int)) := by
  subst hc
  exact row_new w b 32 _ 22 _ hb (by simp) fun i hi => by simp [hi]

set_option maxHeartbeats 2000000 in
theorem law1 (A : Nat → Nat) (hA : ∀ i, i < 32 → A i < 256) (w : World) :
    Calls Try.prog 3 #[.agg (adr A)] w fun e w' => e = .returned (.bool true) ∧ Below w.heap.size w w' := by
  have ha := heap_alloc_new w (.cells (adr A) 22)
  have hbel : Below w.heap.size w (w.alloc (.cells (adr A) 22)) := (Below.refl _ _).alloc (Nat.le_refl _) _
  have hsz : w.heap.size < (w.alloc (.cells (adr A) 22)).heap.size := by simp
  go_enter Try.func3, Try.ntmps3
  go_wp2_with (refine load_adr rfl _ 22 rfl (.inl rfl) A w.heap.size 22 rfl ha ?_)
  refine (str_any A hA _).mono ?_
  rintro e w1 ⟨z, L, D, rfl, hz, hc, hb1⟩
  have ha1 : w1.heap[w.heap.size]? = some (.cells (adr A) 22 (0, 0)) := by rw [hb1.block _ hsz]; exact ha
  have hbel1 := hbel.trans (hb1.mono (by omega))
  clear ha hbel hsz hb1
  have hlen := canon_len hA hz hc
  have t1 := txtS_get (z := z) hc.1
  have u1 := txtS_size z D L
  generalize hS : txtS z D L = S at *
  clear hS
  have hu : S.size ≤ 44 := by omega
  have hd44 : decide ((44 : Int) < (S.size : Int)) = false := decide_eq_false (by omega)
  have U1 : Hid _ := u1
  clear u1
  go_wp2_with fail
  refine (lo_any S (by omega) (chr z D L) t1 _).mono ?_
  rintro e w3 ⟨x, rfl, hx, rfl⟩
  rw [U1.out] at hx
  have hx := ones_are hc hx
  subst hx
  have T1 : Hid _ := t1
  clear t1
  go_wp2_with (refine load_adr rfl _ 22 rfl (.inl rfl) A w.heap.size 22 rfl ha1 ?_)
  refine (lz_any A hA _).mono ?_
  rintro e w4 ⟨x2, rfl, hx2, hb1⟩
  have hx2 := hx2.uniq hz
  subst hx2
  have hsz1 := (Array.getElem?_eq_some_iff.1 ha1).1
  have ha4 : w4.heap[w.heap.size]? = some (.cells (adr A) 22 (0, 0)) := by rw [hb1.block _ hsz1]; exact ha1
  have hbel4 := hbel1.trans (hb1.mono (by omega))
  have hsz4 : w.heap.size < w4.heap.size := (Array.getElem?_eq_some_iff.1 ha4).1
  clear ha1 hbel1 hb1 hsz1
  have hrev : ∀ t, t < L → rev D L t < 58 := fun t ht => hc.1 _ (by omega)
  have hval : pre 58 (rev D L) L = pre 256 A 32 := (turn 58 D L).trans hc.2.2
  have hbd : ∀ t, t ≤ L → pre 58 (rev D L) t < 256 ^ 32 := fun t ht => by
    have h1 := pre_mono (b := 58) (S := rev D L) (by decide) ht
    have h2 := pre_lt hA
    omega
  have hbyte : ∀ t (h : x2 + t < S.size), (S[x2 + t]'h).toNat = alph (rev D L t) := fun t h => by
    rw [T1.out _ h]; unfold chr rev; rw [if_neg (by omega), Nat.add_sub_cancel_left]
  have hsize : S.size = x2 + L := U1.out
  have HV : Hid _ := hval
  have HB : Hid _ := hbd
  have HY : Hid _ := hbyte
  have HR : Hid _ := hrev
  have hm : M1 w (w4.alloc (.cells (((List.range 32).map fun _ => Value.int .u8 0).toArray) 22)) A w4.heap.size (rev D L) 0 (fun _ => 0) :=
    ⟨zero_row w4 _ rfl _ rfl, fun _ _ => by omega, pre_zero (fun _ _ => rfl), by rw [Deep.blk_alloc_lt _ _ _ hsz4]; exact ha4, hbel4.alloc (by omega) _, hsz4⟩
  clear T1 U1 hval hbd hbyte hrev hz hx hx2 ha4 hbel4
  go_wp2
  generalize w4.heap.size = G at *
  go_loopw [6] (fun i wr => ∃ (t : Nat) (C : Nat → Nat), t ≤ L ∧ i = .int .i64 ((x2 + t : Nat) : Int) ∧ M1 w wr A G (rev D L) t C) (fun i _ => x2 + L - (intOf i).toNat)
  case atStart => exact ⟨0, _, by omega, rfl, hm⟩
  case round =>
    clear hm
    obtain ⟨t, C, ht, rfl, h1⟩ := hrel
    by_cases htl : t < L
    · have hlt : x2 + t < S.size := by omega
      have hb := HY.out t hlt
      have hr := HR.out t htl
      have hal := alph_lt _ hr
      go_wp2_with fail
      refine (digit_any (alph (rev D L t)) (rev D L t) (alph_at _ hr) _).mono ?_
      rintro e wx ⟨rfl, rfl⟩
      have h2 := m2_start h1 hr
      have hG := h1.lo
      have hN1 := HB.out (t + 1) (by omega)
      have h1v := h1.val
      have H1 : Hid _ := h1v
      have HN : Hid _ := hN1
      clear h1 h1v hN1
      have hd0 : decide ((rev D L t : Int) < 0) = false := decide_eq_false (by omega)
      go_wp2
      go_loopw [8, 9] (fun c j wr => ∃ (u cn : Nat) (C' : Nat → Nat), u ≤ 32 ∧ j = .int .i64 (31 - (u : Int)) ∧ c = .int .i64 cn ∧ M2 w wr A G C (rev D L t) u cn C') (fun _ j _ => (intOf j + 1).toNat)
      case atStart => exact ⟨0, _, C, by omega, by go_num, rfl, h2⟩
      case round =>
        clear h2
        obtain ⟨u, cn, C', hu32, rfl, rfl, h2⟩ := hrel
        have hcn := h2.small
        by_cases hul : u < 32
        · have hcell := h2.row.cell (i := 31 - u) (by omega)
          have hfz := h2.row.frozen (31 - u)
          have hl := h2.lt (31 - u) (by omega)
          go_wp2
          have e1 : bits .and .i64 ((C' (31 - u) : Int) * 58 + (cn : Int)) 255 % 256 = (((C' (31 - u) * 58 + cn) % 256 : Nat) : Int) := by rw [and_byte]; omega
          have e2 : ((C' (31 - u) : Int) * 58 + (cn : Int)) / 256 = (((C' (31 - u) * 58 + cn) / 256 : Nat) : Int) := by omega
          rw [e1, e2]
          go_roundw
          case rel => exact ⟨u + 1, _, _, by omega, by go_num, rfl, m2_step h2 hul hG⟩
          case measure => simp [intOf]; omega
        · have e32 : u = 32 := by omega
          subst e32
          obtain ⟨rfl, h1⟩ := m1_next H1.out h2 HN.out hG
          clear h2 H1 HN
          go_wp2
          go_roundw
          case rel => exact ⟨t + 1, C', by omega, by go_num, h1⟩
          case measure => simp [intOf]; omega
    · have e : t = L := by omega
      subst e
      have heq : ∀ i, i < 32 → C i = A i := pre_inj h1.lt hA (h1.val.trans HV.out)
      have hrow := row_adr h1.row heq
      have hadr := h1.adr
      have hq := eq_adr A hA
      clear heq
      go_wp2_with (first | (refine load_adr rfl _ 22 rfl (.inl rfl) A G 22 rfl hrow ?_) | (refine load_adr rfl _ 22 rfl (.inl rfl) A w.heap.size 22 rfl hadr ?_))
      go_ret
      exact ⟨rfl, h1.bel⟩
end Go.Proofs.Qxb6632220a
