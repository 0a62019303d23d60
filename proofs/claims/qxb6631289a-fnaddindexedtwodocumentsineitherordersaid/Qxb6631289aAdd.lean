import Derived.Test.Qxb6631289aBase
namespace Go.Proofs.Qxb6631289a
open Go.ChangeShapes Go.WideShapes Go.ChangeAt Go.RowKit
attribute [local go_sem] eql22 eql23 neq22

namespace FldAt
variable {w w' : World} {F : Nat} {v : Value} {d t : Int}
theorem lt (h : FldAt w F v d t) : F < w.heap.size := by obtain ⟨f, hr, _⟩ := h; exact hr.lt
theorem of_block (h : FldAt w F v d t) (e : w'.heap[F]? = w.heap[F]?) : FldAt w' F v d t := by obtain ⟨f, hr, h1⟩ := h; exact ⟨f, hr.of_block e, h1⟩
theorem alloc (h : FldAt w F v d t) (o : Obj) : FldAt (w.alloc o) F v d t := h.of_block (Deep.blk_alloc_lt _ _ _ h.lt)
theorem drew (h : FldAt w F v d t) : FldAt w.drew F v d t := h
theorem setOther (h : FldAt w F v d t) {a : Addr} (ha : F ≠ a.block) (u : Value) : FldAt (w.setCell a u) F v d t := h.of_block (Deep.blk_setCell_other _ _ _ _ ha)
theorem kept {S : Nat → Prop} (h : FldAt w F v d t) (k : Kept S w w') (hs : ¬ S F) : FldAt w' F v d t := h.of_block (k.block _ h.lt hs)
theorem set12 (h : FldAt w F v d t) (d' : Int) : FldAt (w.setCell ⟨F, 12, none⟩ (.int .i64 d')) F v d' t := by
  obtain ⟨f, hr, h1, h2, h3⟩ := h
  exact ⟨_, hr.set 12 _, by simpa using h1, by simp, by simpa using h3⟩
theorem set13 (h : FldAt w F v d t) (t' : Int) : FldAt (w.setCell ⟨F, 13, none⟩ (.int .i64 t')) F v d t' := by
  obtain ⟨f, hr, h1, h2, h3⟩ := h
  exact ⟨_, hr.set 13 _, by simpa using h1, by simpa using h2, by simp⟩
theorem c11 (h : FldAt w F v d t) : w.cell? ⟨F, 11, none⟩ = some v := by obtain ⟨f, hr, h1, h2, h3⟩ := h; rw [hr.cell (by omega), h1]
theorem c12 (h : FldAt w F v d t) : w.cell? ⟨F, 12, none⟩ = some (.int .i64 d) := by obtain ⟨f, hr, h1, h2, h3⟩ := h; rw [hr.cell (by omega), h2]
theorem c13 (h : FldAt w F v d t) : w.cell? ⟨F, 13, none⟩ = some (.int .i64 t) := by obtain ⟨f, hr, h1, h2, h3⟩ := h; rw [hr.cell (by omega), h3]
theorem fz (h : FldAt w F v d t) (i : Nat) : w.frozen? ⟨F, i, none⟩ = false := by obtain ⟨f, hr, _⟩ := h; exact hr.frozen i
end FldAt

set_option maxHeartbeats 400000 in
/-- AddIndexed with no terms. -/
theorem add_none (F : Nat) (v : Value) (d t tok : Int) (ta : Option Addr) (tc : Nat) (w : World) (hF : FldAt w F v d t) :
    Calls Try.prog 10 #[.pointer (some ⟨F, 0, none⟩), .int .i64 tok, .slice ta 0 tc] w fun e w' => e = .returned (.agg #[.int .i64 tok, .slice none 0 0]) ∧
      FldAt w' F v (wrap64 (d + 1)) (wrap64 (t + tok)) ∧ Kept (fun b => b = F) w w' := by
  have h12 := hF.c12
  have h13 := hF.c13
  have f12 := hF.fz 12
  have f13 := hF.fz 13
  have hlt := hF.lt
  go_enter Try.func10, Try.ntmps10
  go_wp2
  refine wp_loop_rounds 1 ?_
  rw [rounds_succ]
  go_wp2
  exact bodyPost_ret (v := .agg #[.int .i64 tok, .slice none 0 0]) (by simp [results, Try.results10, go_sem]) rfl ⟨rfl, (((hF.set12 _).set13 _).alloc _).alloc _, ((((Kept.refl (fun b => b = F) w).setCell (a := ⟨F, 12, none⟩) (fun _ => rfl) _).setCell (a := ⟨F, 13, none⟩) (fun _ => rfl) _).alloc _).alloc _⟩

/-- The holding of term i behind m pairs. -/
def hvv (Z T : Nat → Int) : Nat → Nat → Int
  | 0, i => Z i
  | m + 1, i => if T m = i then wrap64 (hvv Z T m i + 1) else hvv Z T m i

theorem hvv_no {Z T : Nat → Int} {m i : Nat} (h : hldB T m i = false) : hvv Z T m i = Z i := by
  induction m with
  | zero => rfl
  | succ m ih =>
    unfold hldB at h
    by_cases e : T m = i
    · rw [if_pos e] at h; cases h
    · rw [if_neg e] at h
      unfold hvv; rw [if_neg e]; exact ih h

theorem hvv_is {Z T : Nat → Int} {n m i : Nat} (hd : Dist T n m) : hvv Z T m i = if hldB T m i = true then wrap64 (Z i + 1) else Z i := by
  induction m with
  | zero => rfl
  | succ m ih =>
    have ih := ih (fun k hk => hd k (by omega))
    unfold hvv
    by_cases e : T m = i
    · have h1 : hldB T (m + 1) i = true := (hldB_true T _ _).2 ⟨m, by omega, e⟩
      have h0 : hldB T m i = false := by
        cases h : hldB T m i with
        | false => rfl
        | true =>
          obtain ⟨j, hj, ej⟩ := (hldB_true T _ _).1 h
          exact absurd (ej.trans e.symm) ((hd m (by omega)).2.2 j hj)
      rw [if_pos e, if_pos h1, hvv_no h0]
    · have h1 : hldB T (m + 1) i = hldB T m i := by show (if T m = i then true else hldB T m i) = _; rw [if_neg e]
      rw [if_neg e, h1]; exact ih

/-- The frequencies behind k pairs. -/
def FqAt (B : Nat) (w : World) (fv : Value) (n : Nat) (T C : Nat → Int) (k : Nat) : Prop :=
  (k = 0 ∧ fv = .slice none 0 0) ∨ (0 < k ∧ ∃ g, fv = .slice (some ⟨g, 0, none⟩) n n ∧ B ≤ g ∧ w.rowIs g 3 n (fun i => .int .i64 (frq T C k i)))

def cntC (tok : Int) (fv : Value) (i : Nat) : Value := if i = 0 then .int .i64 tok else fv

theorem row_new (X : World) (b n : Nat) (c : Array Value) (t : TypeId) (f : Nat → Value) (hb : b = X.heap.size) (hs : c.size = n) (hc : ∀ i, i < n → c[i]? = some (f i)) : (X.alloc (.cells c t)).rowIs b t n f := by
  subst hb; subst hs; exact World.rowIs_alloc X c t f hc

/-- What stands at the head of AddIndexed's round k. -/
def Inv (w : World) (F H n hcap : Nat) (tok d t : Int) (Z T C : Nat → Int) (k : Nat) (fv : Value) (wr : World) : Prop :=
  Kept (fun b => b = F ∨ b = H) w wr ∧ (∃ f, wr.rowIs w.heap.size 31 2 f) ∧ wr.rowIs (w.heap.size + 1) 31 2 (cntC tok fv) ∧ FqAt (w.heap.size + 2) wr fv n T C k ∧
    wr.rowIs H 3 n (fun i => .int .i64 (hvv Z T k i)) ∧ FldAt wr F (.slice (some ⟨H, 0, none⟩) n hcap) d t

theorem hvv_set (Z T : Nat → Int) (k i : Nat) (h0 : 0 ≤ T k) :
    (if i = (T k).toNat then Value.int .i64 (wrap64 (hvv Z T k (T k).toNat + 1)) else .int .i64 (hvv Z T k i)) = .int .i64 (hvv Z T (k + 1) i) := by
  show _ = Value.int .i64 (if T k = i then wrap64 (hvv Z T k i + 1) else hvv Z T k i)
  by_cases e : i = (T k).toNat
  · rw [if_pos e, if_pos (by omega), e]
  · rw [if_neg e, if_neg (by omega)]

theorem frq_set (T C : Nat → Int) (k i : Nat) (h0 : 0 ≤ T k) :
    (if i = (T k).toNat then Value.int .i64 (C k) else .int .i64 (frq T C k i)) = .int .i64 (frq T C (k + 1) i) := by
  show _ = Value.int .i64 (if T k = i then C k else frq T C k i)
  by_cases e : i = (T k).toNat
  · rw [if_pos e, if_pos (by omega)]
  · rw [if_neg e, if_neg (by omega)]

theorem inv_first {w wr : World} {F H n hcap : Nat} {tok d t : Int} {Z T C : Nat → Int} (h : Inv w F H n hcap tok d t Z T C 0 (.slice none 0 0) wr) (hF : F < w.heap.size) (hH : H < w.heap.size) (hFH : F ≠ H) (h0 : 0 ≤ T 0) (o : Obj) :
    Inv w F H n hcap tok d t Z T C 1 (.slice (some ⟨wr.heap.size + 1, 0, none⟩) n n)
      ((((wr.setCell ⟨w.heap.size + 1, 1, none⟩ (.slice (some ⟨wr.heap.size + 1, 0, none⟩) n n)).setCell ⟨H, (T 0).toNat, none⟩ (.int .i64 (wrap64 (hvv Z T 0 (T 0).toNat + 1)))).alloc o).alloc
        (.cells ((madeCells #[.int .i64 0] n).setIfInBounds (T 0).toNat (.int .i64 (C 0))) 3)).drew := by
  obtain ⟨hk, ⟨f, hr⟩, hc, _, hh, hf⟩ := h
  have l1 := hr.lt
  have l2 := hc.lt
  have hs := hk.size
  refine ⟨((((hk.setCell (a := ⟨w.heap.size + 1, 1, none⟩) (fun h => absurd h (by simp)) _).setCell (a := ⟨H, (T 0).toNat, none⟩) (fun _ => .inr rfl) _).alloc _).alloc _).drew, ⟨f, ?_⟩, ?_, ?_, ?_, ?_⟩
  · exact ((((hr.setOther (by simp) _).setOther (by simp; omega) _).alloc _).alloc _).drew
  · refine (((((hc.set 1 _).congr (g := cntC tok (.slice (some ⟨wr.heap.size + 1, 0, none⟩) n n)) ?_).setOther (by simp; omega) _).alloc _).alloc _).drew
    intro i hi
    unfold cntC
    by_cases e : i = 1
    · subst e; rfl
    · have : i = 0 := by omega
      subst this; rfl
  · refine .inr ⟨by omega, _, rfl, by omega, ?_⟩
    refine (row_new _ _ n _ 3 _ ?_ ?_ ?_).drew
    · simp
    · simp [size_madeCells]
    · intro i hi
      rw [Array.getElem?_setIfInBounds]
      have hz : (madeCells #[Value.int .i64 0] n)[i]? = some (.int .i64 0) := by simp [madeCells, hi, Nat.mod_one]
      by_cases e : i = (T 0).toNat
      · rw [if_pos e.symm, if_pos (by rw [size_madeCells]; omega)]
        show _ = some (Value.int .i64 (if T 0 = i then C 0 else 0))
        rw [if_pos (by omega)]
      · rw [if_neg (fun h => e h.symm), hz]
        show _ = some (Value.int .i64 (if T 0 = i then C 0 else 0))
        rw [if_neg (by omega)]
  · exact (((((hh.setOther (by simp; omega) _).set _ _).congr fun i _ => hvv_set Z T 0 i h0).alloc _).alloc _).drew
  · exact ((((hf.setOther (by simp; omega) _).setOther (by simp; omega) _).alloc _).alloc _).drew

theorem inv_next {w wr : World} {F H n hcap k g : Nat} {tok d t : Int} {Z T C : Nat → Int} (h : Inv w F H n hcap tok d t Z T C k (.slice (some ⟨g, 0, none⟩) n n) wr) (hg : w.heap.size + 2 ≤ g)
    (hgr : wr.rowIs g 3 n (fun i => .int .i64 (frq T C k i))) (hF : F < w.heap.size) (hH : H < w.heap.size) (hFH : F ≠ H) (h0 : 0 ≤ T k) (o : Obj) :
    Inv w F H n hcap tok d t Z T C (k + 1) (.slice (some ⟨g, 0, none⟩) n n)
      (((wr.setCell ⟨g, (T k).toNat, none⟩ (.int .i64 (C k))).setCell ⟨H, (T k).toNat, none⟩ (.int .i64 (wrap64 (hvv Z T k (T k).toNat + 1)))).alloc o).drew := by
  obtain ⟨hk, ⟨f, hr⟩, hc, _, hh, hf⟩ := h
  refine ⟨(((hk.setCell (a := ⟨g, (T k).toNat, none⟩) (fun h => absurd h (by simp; omega)) _).setCell (a := ⟨H, (T k).toNat, none⟩) (fun _ => .inr rfl) _).alloc _).drew, ⟨f, ?_⟩, ?_, ?_, ?_, ?_⟩
  · exact (((hr.setOther (by simp; omega) _).setOther (by simp; omega) _).alloc _).drew
  · exact (((hc.setOther (by simp; omega) _).setOther (by simp; omega) _).alloc _).drew
  · exact .inr ⟨by omega, _, rfl, hg, ((((hgr.set _ _).congr fun i _ => frq_set T C k i h0).setOther (by simp; omega) _).alloc _).drew⟩
  · exact ((((hh.setOther (by simp; omega) _).set _ _).congr fun i _ => hvv_set Z T k i h0).alloc _).drew
  · exact (((hf.setOther (by simp; omega) _).setOther (by simp; omega) _).alloc _).drew

theorem inv_start (w : World) (F H n hcap : Nat) (tok d t : Int) (Z T C : Nat → Int) (hF : FldAt w F (.slice (some ⟨H, 0, none⟩) n hcap) d t) (hH : w.rowIs H 3 n (fun i => .int .i64 (Z i))) (x y : Value) :
    Inv w F H n hcap tok d t Z T C 0 (.slice none 0 0) ((w.alloc (.cells #[x, y] 31)).alloc (.cells #[.int .i64 tok, .slice none 0 0] 31)) := by
  refine ⟨((Kept.refl _ _).alloc _).alloc _, ⟨fun i => if i = 0 then x else y, ?_⟩, ?_, .inl ⟨rfl, rfl⟩, (hH.alloc _).alloc _, (hF.alloc _).alloc _⟩
  · refine (row_new w _ 2 _ 31 _ rfl rfl ?_).alloc _
    intro i hi
    match i, hi with
    | 0, _ => rfl
    | 1, _ => rfl
  · refine row_new _ _ 2 _ 31 _ (by simp) rfl ?_
    intro i hi
    match i, hi with
    | 0, _ => rfl
    | 1, _ => rfl

set_option maxHeartbeats 1000000 in
/-- AddIndexed with at least one term. -/
theorem add_some (F H n hcap m tc : Nat) (d t tok : Int) (Z T C : Nat → Int) (tb : Nat) (w : World) (hn : n ≤ 4096) (hm : m ≤ 4096) (hm0 : 0 < m) (hFH : F ≠ H) (hFt : F ≠ tb) (hHt : H ≠ tb)
    (hF : FldAt w F (.slice (some ⟨H, 0, none⟩) n hcap) d t) (hH : w.rowIs H 3 n (fun i => .int .i64 (Z i))) (hT : w.rowIs tb 53 (m * 2) (pairC T C m)) (hd : Dist T n m) :
    Calls Try.prog 10 #[.pointer (some ⟨F, 0, none⟩), .int .i64 tok, .slice (some ⟨tb, 0, none⟩) m tc] w fun e w' => ∃ g, e = .returned (.agg #[.int .i64 tok, .slice (some ⟨g, 0, none⟩) n n]) ∧ w.heap.size ≤ g ∧
      w'.rowIs g 3 n (fun i => .int .i64 (frq T C m i)) ∧ w'.rowIs H 3 n (fun i => .int .i64 (hvv Z T m i)) ∧
      FldAt w' F (.slice (some ⟨H, 0, none⟩) n hcap) (wrap64 (d + 1)) (wrap64 (t + tok)) ∧ Kept (fun b => b = F ∨ b = H) w w' := by
  have hFl := hF.lt
  have hHl := hH.lt
  have hTl := hT.lt
  have hmk := run_make_row' (P := Try.prog) 22 3 (.int .i64 0) 8 Try.underlying22 Try.info3 rfl .i64 .i64 n (by omega) (by omega)
  go_enter Try.func10, Try.ntmps10
  go_wp2
  go_loopw [14] (fun i wr => ∃ (k : Nat) (fv : Value), k ≤ m ∧ i = .int .i64 k ∧ Inv w F H n hcap tok d t Z T C k fv wr) (fun i _ => m - (intOf i).toNat)
  case atStart => exact ⟨0, _, Nat.zero_le _, rfl, inv_start w F H n hcap tok d t Z T C hF hH _ _⟩
  case round =>
    obtain ⟨k, fv, hk, rfl, hinv⟩ := hrel
    have hinv' := hinv
    obtain ⟨hkept, ⟨f0, hres⟩, hcnt, hfq, hhold, hfld⟩ := hinv'
    have hs := hkept.size
    have hrl := hres.lt
    have hcl := hcnt.lt
    have hhl := hhold.lt
    have hfl := hfld.lt
    by_cases hlt : k < m
    · have hTk := hkept.row hT (by omega)
      have ct0 := hTk.cell (i := k * 2) (by omega)
      have ct1 := hTk.cell (i := k * 2 + 1) (by omega)
      rw [show pairC T C m (k * 2) = .int .i64 (T k) by unfold pairC; rw [show k * 2 / 2 = k by omega, if_pos hlt, if_pos (by omega)]] at ct0
      rw [show pairC T C m (k * 2 + 1) = .int .i64 (C k) by unfold pairC; rw [show (k * 2 + 1) / 2 = k by omega, if_pos hlt, if_neg (by omega)]] at ct1
      obtain ⟨t0, t1, _⟩ := hd k hlt
      have c11 := hfld.c11
      have cc1 : wr.cell? ⟨w.heap.size + 1, 1, none⟩ = some fv := hcnt.cell (i := 1) (by omega)
      have cf1 := hcnt.frozen 1
      have ch := hhold.cell (i := (T k).toNat) (by omega)
      have chf := hhold.frozen (T k).toNat
      rcases hfq with ⟨rfl, rfl⟩ | ⟨hk0, g, rfl, hg, hfr⟩
      · have hmc : (madeCells #[Value.int .i64 0] n)[(T 0).toNat]? = some (.int .i64 0) := by simp [madeCells, show (T 0).toNat < n by omega, Nat.mod_one]
        go_wp2
        go_region
        go_wp2
        go_roundw
        case rel => exact ⟨1, _, by omega, rfl, inv_first hinv hFl hHl hFH t0 _⟩
        case measure => simp [intOf]; omega
      · have hgl := hfr.lt
        have cg := hfr.cell (i := (T k).toNat) (by omega)
        have cgf := hfr.frozen (T k).toNat
        clear hmk
        go_wp2
        go_region
        go_wp2
        go_roundw
        case rel => exact ⟨k + 1, _, by omega, by go_num, inv_next hinv hg hfr hFl hHl hFH t0 _⟩
        case measure => simp [intOf]; omega
    · have e : m = k := by omega
      subst e
      rcases hfq with ⟨e0, _⟩ | ⟨hk0, g, rfl, hg, hfr⟩
      · omega
      have hgl := hfr.lt
      have c12 := hfld.c12
      have c13 := hfld.c13
      have f12 := hfld.fz 12
      have f13 := hfld.fz 13
      have cc0 : wr.cell? ⟨w.heap.size + 1, 0, none⟩ = some (.int .i64 tok) := hcnt.cell (i := 0) (by omega)
      have cc1 : wr.cell? ⟨w.heap.size + 1, 1, none⟩ = some (.slice (some ⟨g, 0, none⟩) n n) := hcnt.cell (i := 1) (by omega)
      have cr0 := hres.cell (i := 0) (by omega)
      have cr1 := hres.cell (i := 1) (by omega)
      have fr0 := hres.frozen 0
      have fr1 := hres.frozen 1
      clear hmk
      go_wp2
      refine bodyPost_ret (v := .agg #[.int .i64 tok, .slice (some ⟨g, 0, none⟩) n n]) (by simp [results, Try.results10, go_sem, cr0, cr1]) rfl ⟨g, rfl, by omega, ?_, ?_, ?_, ?_⟩
      · exact (((hfr.setOther (by simp; omega) _).setOther (by simp; omega) _).setOther (by simp; omega) _).setOther (by simp; omega) _
      · exact (((hhold.setOther (by simp; omega) _).setOther (by simp; omega) _).setOther (by simp; omega) _).setOther (by simp; omega) _
      · exact (((hfld.set12 _).set13 _).setOther (by simp; omega) _).setOther (by simp; omega) _
      · exact (((hkept.setCell (a := ⟨F, 12, none⟩) (fun _ => .inl rfl) _).setCell (a := ⟨F, 13, none⟩) (fun _ => .inl rfl) _).setCell (a := ⟨w.heap.size, 0, none⟩) (fun h => absurd h (by simp)) _).setCell (a := ⟨w.heap.size, 1, none⟩) (fun h => absurd h (by simp)) _
end Go.Proofs.Qxb6631289a
