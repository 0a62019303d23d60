import Derived.Test.Qxb6632220aStr
import Derived.Deep.RegionWith
namespace Go.Proofs.Qxb6632220a
open Go.ChangeShapes Go.WideShapes Go.ChangeAt Go.RowKit
set_option linter.unusedSimpArgs false

/-- Greatest digit first. -/
def rev (D : Nat → Nat) (L : Nat) : Nat → Nat := fun i => D (L - 1 - i)

/-- The text opens with as many ones as the address with zeros, and no more. -/
theorem ones_are {z L y N : Nat} {D : Nat → Nat} (hc : Canon D L N) (h : y ≤ z + L ∧ (∀ i, i < y → chr z D L i = 49) ∧ (y = z + L ∨ chr z D L y ≠ 49)) : y = z := by
  obtain ⟨h1, h2, h3⟩ := h
  obtain ⟨c1, c2, _⟩ := hc
  rcases Nat.lt_trichotomy y z with q | q | q
  · rcases h3 with e | e
    · omega
    · exact absurd (by unfold chr; rw [if_pos q]) e
  · exact q
  · have hz := h2 z q
    unfold chr at hz
    rw [if_neg (by omega), Nat.sub_self, Nat.sub_zero] at hz
    have := c2.resolve_left (by omega)
    exact absurd hz (alph_one _ (c1 _ (by omega)) this)

theorem canon_len {A D : Nat → Nat} {z L : Nat} (hA : ∀ i, i < 32 → A i < 256) (hz : Lead A 32 z) (hc : Canon D L (pre 256 A 32)) : z + L ≤ 44 :=
  len_bound (S := rev D L) hz hA (by
    rcases hc.2.1 with h | h
    · exact .inl h
    · exact .inr (by unfold rev; rwa [Nat.sub_zero])) (by rw [← hc.2.2]; exact turn 58 D L)

/-- The two addresses in their boxes; old memory. -/
structure Two (w wr : World) (A B : Nat → Nat) : Prop where
  a : wr.heap[w.heap.size]? = some (.cells (adr A) 22 (0, 0))
  b : wr.heap[w.heap.size + 1]? = some (.cells (adr B) 22 (0, 0))
  bel : Below w.heap.size w wr
theorem Two.lt {w wr : World} {A B : Nat → Nat} (h : Two w wr A B) : w.heap.size + 1 < wr.heap.size := (Array.getElem?_eq_some_iff.1 h.b).1
theorem Two.below {w wr w' : World} {A B : Nat → Nat} (h : Two w wr A B) (k : Below wr.heap.size wr w') : Two w w' A B :=
  ⟨by rw [k.block _ (by have := h.lt; omega)]; exact h.a, by rw [k.block _ h.lt]; exact h.b, h.bel.trans (k.mono (by have := h.lt; omega))⟩
theorem two_start (w : World) (A B : Nat → Nat) : Two w ((w.alloc (.cells (adr A) 22)).alloc (.cells (adr B) 22)) A B := by
  refine ⟨?_, ?_, ((Below.refl _ _).alloc (Nat.le_refl _) _).alloc (by simp) _⟩
  · rw [Deep.blk_alloc_lt _ _ _ (by simp)]; exact heap_alloc_new w _
  · have := heap_alloc_new (w.alloc (.cells (adr A) 22)) (.cells (adr B) 22)
    rwa [Deep.nblk_alloc] at this

theorem ext_size (s : ByteArray) (z L : Nat) (hs : s.size = z + L) : (s.extract z s.size).size = L := by simp [ByteArray.size_extract, hs]
theorem ext_get (s : ByteArray) (z L : Nat) (D : Nat → Nat) (hs : s.size = z + L) (h : ∀ i (h : i < s.size), (s[i]'h).toNat = chr z D L i) :
    ∀ i (h : i < (s.extract z s.size).size), ((s.extract z s.size)[i]'h).toNat = alph (rev D L i) := by
  intro i hi
  have hl := ext_size s z L hs
  rw [ByteArray.getElem_extract, h (z + i) (by omega)]
  unfold chr rev
  rw [if_neg (by omega), Nat.add_sub_cancel_left]

theorem load_adr_g {ops : Array Oper} {rest : List Oper} {o : Oper} {a : Act} {w : World} {Q : Exit → Act → World → Prop} (x : Operand) (ho : o.op = .load 22 x) (hw : Region.wanted o (yielded ops a.tmps) = true)
    (A : Nat → Nat) (g : Nat) (t : TypeId) (hx : a.eval x = .pointer (some ⟨g, 0, none⟩)) (hg : w.heap[g]? = some (.cells (adr A) t (0, 0)))
    (h : wpList Try.prog ops Q rest (a.put o.dst (.agg (adr A))) w) : wpList Try.prog ops Q (o :: rest) a w :=
  wpList_step fun K hK => by
    rw [if_pos hw]
    exact wp_load_row 22 x ho g hx t (adr A) (0, 0) _ hg Try.underlying22 rfl (by rw [Try.size22, adr_size]) (hK _ _ h)

theorem cmp_texts (x y : ByteArray) {A B D E : Nat → Nat} {L M : Nat} (hc : Canon D L (pre 256 A 32)) (hd : Canon E M (pre 256 B 32)) (v1 : x.size = L) (v2 : y.size = M) (hL : L ≤ 100) (hM : M ≤ 100)
    (q1 : ∀ i (h : i < x.size), (x[i]'h).toNat = alph (rev D L i)) (q2 : ∀ i (h : i < y.size), (y[i]'h).toNat = alph (rev E M i)) (w : World) :
    Calls Try.prog 10 #[.string x, .string y] w fun e w' => e = .returned (.int .i64 (cmpN (pre 256 A 32) (pre 256 B 32))) ∧ ∃ n, w' = w.drewN n := by
  obtain ⟨c1, c2, c3⟩ := hc
  obtain ⟨d1, d2, d3⟩ := hd
  have e1 : pre 58 (rev D L) x.size = pre 256 A 32 := by rw [v1]; exact (turn 58 D L).trans c3
  have e2 : pre 58 (rev E M) y.size = pre 256 B 32 := by rw [v2]; exact (turn 58 E M).trans d3
  rw [← e1, ← e2]
  refine cmpS_any x y (by omega) (by omega) (rev D L) (rev E M) (fun i hi => c1 _ (by omega)) (fun i hi => d1 _ (by omega)) ?_ ?_ q1 q2 w
  · rw [v1]; unfold rev; rw [Nat.sub_zero]; exact c2
  · rw [v2]; unfold rev; rw [Nat.sub_zero]; exact d2

/-- A whole address loaded, as one step of a region that draws. -/
theorem all_load {md : Region.Mode} {ops : Array Oper} {Q : Exit → Act → World → Prop} {fuel : Nat} {listed : Array Bool} {a : Act} {w : World} {i : Nat} {o : Oper} {rs : List Nat} (ho : ops[i]? = some o) (hgd : o.guard = none) (x : Operand) (hop : o.op = .load 22 x)
    (A : Nat → Nat) (g : Nat) (hx : a.eval x = .pointer (some ⟨g, 0, none⟩)) (hg : w.heap[g]? = some (.cells (adr A) 22 (0, 0)))
    (h : wpAny Try.prog md ops Q fuel (listed.setIfInBounds i true) (a.put o.dst (.agg (adr A))) w) (hs : AllReady Try.prog md ops Q fuel listed a w rs) : AllReady Try.prog md ops Q fuel listed a w (i :: rs) :=
  AllReady.cons ho (fun K hK => by
    rw [if_pos (by simp [Region.wanted, hgd])]
    exact wp_load_row 22 x hop g hx 22 (adr A) (0, 0) _ hg Try.underlying22 rfl (by rw [Try.size22, adr_size]) (hK _ _ h)) hs

set_option maxHeartbeats 2000000 in
theorem law2 (A B : Nat → Nat) (hA : ∀ i, i < 32 → A i < 256) (hB : ∀ i, i < 32 → B i < 256) (w : World) :
    Calls Try.prog 4 #[.agg (adr A), .agg (adr B)] w fun e w' => e = .returned (.bool true) ∧ Below w.heap.size w w' := by
  have h2 := two_start w A B
  have ha := h2.a
  have hb := h2.b
  go_enter Try.func4, Try.ntmps4
  go_wp2_with (refine load_adr rfl _ 22 rfl (.inl rfl) A w.heap.size 22 rfl ha ?_)
  refine (str_any A hA _).mono ?_
  rintro e w1 ⟨z, L, D, rfl, hz, hc, hb1⟩
  have h2 := h2.below hb1
  clear ha hb
  have ha := h2.a
  have hb := h2.b
  clear hb1
  have hlen := canon_len hA hz hc
  go_wp2_with (refine load_adr rfl _ 22 rfl (.inl rfl) B (w.heap.size + 1) 22 rfl hb ?_)
  refine (str_any B hB _).mono ?_
  rintro e w2 ⟨y, M, E, rfl, hy, hd, hb1⟩
  have h2 := h2.below hb1
  clear ha hb
  have ha := h2.a
  have hb := h2.b
  clear hb1
  have hlen2 := canon_len hB hy hd
  have t1 := txtS_get (z := z) hc.1
  have t2 := txtS_get (z := y) hd.1
  have u1 := txtS_size z D L
  have u2 := txtS_size y E M
  generalize hS : txtS z D L = S at *
  generalize hT : txtS y E M = T at *
  go_wp2_with fail
  refine (lo_any S (by omega) (chr z D L) t1 _).mono ?_
  rintro e w3 ⟨x, rfl, hx, rfl⟩
  rw [u1] at hx
  have hx := ones_are hc hx
  subst hx
  go_wp2_with fail
  refine (lo_any T (by omega) (chr y E M) t2 _).mono ?_
  rintro e w3 ⟨x', rfl, hx', rfl⟩
  rw [u2] at hx'
  have hx' := ones_are hd hx'
  subst hx'
  have v1 := ext_size S x L u1
  have v2 := ext_size T x' M u2
  have q1 := ext_get S x L D u1 t1
  have q2 := ext_get T x' M E u2 t2
  clear t1 t2 hS hT
  go_wp2_with (refine load_adr rfl _ 22 rfl (.inl rfl) A w.heap.size 22 rfl ha ?_)
  refine (lz_any A hA _).mono ?_
  rintro e w4 ⟨x2, rfl, hx2, hb1⟩
  have hx2 := hx2.uniq hz
  subst hx2
  have h2 := h2.below hb1
  clear ha hb
  have ha := h2.a
  have hb := h2.b
  clear hb1
  go_wp2_with (refine load_adr_g _ rfl rfl B (w.heap.size + 1) 22 rfl hb ?_)
  refine (lz_any B hB _).mono ?_
  rintro e w5 ⟨x3, rfl, hx3, hb1⟩
  have hx3 := hx3.uniq hy
  subst hx3
  have h2 := h2.below hb1
  clear ha hb
  have ha := h2.a
  have hb := h2.b
  clear hb1
  go_wp2_with fail
  have ss1 : (x2 : Int) ≤ (S.size : Int) := by omega
  have ss2 : (x3 : Int) ≤ (T.size : Int) := by omega
  clear u1 u2
  have V1 : Hid _ := v1
  have V2 : Hid _ := v2
  have Q1 : Hid _ := q1
  have Q2 : Hid _ := q2
  clear v1 v2 q1 q2
  have HC := fun wx => cmp_texts (S.extract x2 S.size) (T.extract x3 T.size) hc hd V1.out V2.out (by omega) (by omega) Q1.out Q2.out wx
  clear V1 V2 Q1 Q2
  have HC : Hid _ := HC
  have ld1 : (w5.drew).heap[w.heap.size]? = some (.cells (adr A) 22 (0, 0)) := ha
  have ld2 : (w5.drew).heap[w.heap.size + 1]? = some (.cells (adr B) 22 (0, 0)) := hb
  refine wp_region_any (by kernel_rfl) ?_
  change wpAny _ _ _ _ _ _ _ (World.drew _)
  refine wpAny_take (i := 3) (v := .string S) rfl (by kernel_rfl) (by kernel_rfl) (by kernel_rfl) (fun _ _ _ h => h) (Or.inl ⟨by rfl, fun w => by go_simp⟩) ?_
  refine wpAny_take (i := 4) (v := .int .i64 x2) rfl (by kernel_rfl) (by kernel_rfl) (by kernel_rfl) (fun _ _ _ h => h) (Or.inl ⟨by rfl, fun w => by go_simp⟩) ?_
  refine wpAny_take (i := 6) (v := .string T) rfl (by kernel_rfl) (by kernel_rfl) (by kernel_rfl) (fun _ _ _ h => h) (Or.inl ⟨by rfl, fun w => by go_simp⟩) ?_
  refine wpAny_take (i := 7) (v := .int .i64 x3) rfl (by kernel_rfl) (by kernel_rfl) (by kernel_rfl) (fun _ _ _ h => h) (Or.inl ⟨by rfl, fun w => by go_simp⟩) ?_
  refine wpAny_take (i := 5) (v := .string (S.extract x2 S.size)) rfl (by kernel_rfl) (by kernel_rfl) (by kernel_rfl) (fun _ _ _ h => h) (Or.inl ⟨by rfl, fun w => by go_simp⟩) ?_
  refine wpAny_take (i := 8) (v := .string (T.extract x3 T.size)) rfl (by kernel_rfl) (by kernel_rfl) (by kernel_rfl) (fun _ _ _ h => h) (Or.inl ⟨by rfl, fun w => by go_simp⟩) ?_
  refine wpAny_ready (rs := [0, 1]) (by kernel_rfl) (by simp) ?_
  simp only [List.getElem_toArray, List.getElem_cons_zero, List.getElem_cons_succ, Act.put, List.setIfInBounds_toArray, List.set_cons_zero, List.set_cons_succ]
  refine AllReady.cons rfl (fun K hK => ?_) (AllReady.cons rfl (fun K hK => ?_) AllReady.nil)
  · simp only [List.getElem_toArray, List.getElem_cons_zero, List.getElem_cons_succ, Region.wanted, if_true]
    refine wp_load_row 22 _ rfl w.heap.size rfl 22 (adr A) (0, 0) _ ld1 Try.underlying22 rfl (by rw [Try.size22, adr_size]) ?_
    refine hK _ _ ?_
    clear hK K
    try simp only [List.getElem_toArray, List.getElem_cons_zero, List.getElem_cons_succ, Act.put, List.setIfInBounds_toArray, List.set_cons_zero, List.set_cons_succ]
    refine wpAny_ready (rs := [1]) (by kernel_rfl) (by simp) ?_
    refine AllReady.cons rfl (fun K hK => ?_) AllReady.nil
    simp only [List.getElem_toArray, List.getElem_cons_zero, List.getElem_cons_succ, Region.wanted, if_true]
    refine wp_load_row 22 _ rfl (w.heap.size + 1) rfl 22 (adr B) (0, 0) _ ld2 Try.underlying22 rfl (by rw [Try.size22, adr_size]) ?_
    refine hK _ _ ?_
    clear hK K
    try simp only [List.getElem_toArray, List.getElem_cons_zero, List.getElem_cons_succ, Act.put, List.setIfInBounds_toArray, List.set_cons_zero, List.set_cons_succ]
    refine wpAny_ready (rs := [2]) (by kernel_rfl) (by simp) ?_
    refine AllReady.cons rfl (fun K hK => ?_) AllReady.nil
    go_simp
    go_wp2_with fail
    refine (cmpA_any A B hA hB _).mono ?_
    rintro e w6 ⟨rfl, hb6⟩
    refine hK _ _ ?_
    clear hK K
    try simp only [List.getElem_toArray, List.getElem_cons_zero, List.getElem_cons_succ, Act.put, List.setIfInBounds_toArray, List.set_cons_zero, List.set_cons_succ]
    refine wpAny_ready (rs := [9]) (by kernel_rfl) (by simp) ?_
    refine AllReady.cons rfl (fun K hK => ?_) AllReady.nil
    go_simp
    go_wp2_with fail
    refine (HC.out w6).mono ?_
    rintro e w7 ⟨rfl, nn, rfl⟩
    refine hK _ _ ?_
    clear hK K
    try simp only [List.getElem_toArray, List.getElem_cons_zero, List.getElem_cons_succ, Act.put, List.setIfInBounds_toArray, List.set_cons_zero, List.set_cons_succ]
    refine wpAny_ready (rs := [10]) (by kernel_rfl) (by simp) ?_
    refine AllReady.cons rfl (fun K hK => ?_) AllReady.nil
    go_simp
    refine hK _ _ ?_
    clear hK K
    refine wpAny_ready (rs := [11]) (by kernel_rfl) (by simp) ?_
    refine AllReady.cons rfl (fun K hK => ?_) AllReady.nil
    go_simp
    refine hK _ _ ?_
    clear hK K
    refine wpAny_done (by kernel_rfl) ?_ _
    go_wp2
    go_ret
    exact ⟨rfl, below_drewN ((h2.below (Below.drew (Below.refl _ _))).below hb6).bel _⟩
  · simp only [List.getElem_toArray, List.getElem_cons_zero, List.getElem_cons_succ, Region.wanted, if_true]
    refine wp_load_row 22 _ rfl (w.heap.size + 1) rfl 22 (adr B) (0, 0) _ ld2 Try.underlying22 rfl (by rw [Try.size22, adr_size]) ?_
    refine hK _ _ ?_
    clear hK K
    try simp only [List.getElem_toArray, List.getElem_cons_zero, List.getElem_cons_succ, Act.put, List.setIfInBounds_toArray, List.set_cons_zero, List.set_cons_succ]
    refine wpAny_ready (rs := [0]) (by kernel_rfl) (by simp) ?_
    refine AllReady.cons rfl (fun K hK => ?_) AllReady.nil
    simp only [List.getElem_toArray, List.getElem_cons_zero, List.getElem_cons_succ, Region.wanted, if_true]
    refine wp_load_row 22 _ rfl w.heap.size rfl 22 (adr A) (0, 0) _ ld1 Try.underlying22 rfl (by rw [Try.size22, adr_size]) ?_
    refine hK _ _ ?_
    clear hK K
    try simp only [List.getElem_toArray, List.getElem_cons_zero, List.getElem_cons_succ, Act.put, List.setIfInBounds_toArray, List.set_cons_zero, List.set_cons_succ]
    refine wpAny_ready (rs := [2]) (by kernel_rfl) (by simp) ?_
    refine AllReady.cons rfl (fun K hK => ?_) AllReady.nil
    go_simp
    go_wp2_with fail
    refine (cmpA_any A B hA hB _).mono ?_
    rintro e w6 ⟨rfl, hb6⟩
    refine hK _ _ ?_
    clear hK K
    try simp only [List.getElem_toArray, List.getElem_cons_zero, List.getElem_cons_succ, Act.put, List.setIfInBounds_toArray, List.set_cons_zero, List.set_cons_succ]
    refine wpAny_ready (rs := [9]) (by kernel_rfl) (by simp) ?_
    refine AllReady.cons rfl (fun K hK => ?_) AllReady.nil
    go_simp
    go_wp2_with fail
    refine (HC.out w6).mono ?_
    rintro e w7 ⟨rfl, nn, rfl⟩
    refine hK _ _ ?_
    clear hK K
    try simp only [List.getElem_toArray, List.getElem_cons_zero, List.getElem_cons_succ, Act.put, List.setIfInBounds_toArray, List.set_cons_zero, List.set_cons_succ]
    refine wpAny_ready (rs := [10]) (by kernel_rfl) (by simp) ?_
    refine AllReady.cons rfl (fun K hK => ?_) AllReady.nil
    go_simp
    refine hK _ _ ?_
    clear hK K
    refine wpAny_ready (rs := [11]) (by kernel_rfl) (by simp) ?_
    refine AllReady.cons rfl (fun K hK => ?_) AllReady.nil
    go_simp
    refine hK _ _ ?_
    clear hK K
    refine wpAny_done (by kernel_rfl) ?_ _
    go_wp2
    go_ret
    exact ⟨rfl, below_drewN ((h2.below (Below.drew (Below.refl _ _))).below hb6).bel _⟩
end Go.Proofs.Qxb6632220a
