import Derived.Test.Qxb6631289aAdd
namespace Go.Proofs.Qxb6631289a
open Go.ChangeShapes Go.WideShapes Go.ChangeAt Go.RowKit

/-- A slice of ints that came in. -/
def IntsIn (w : World) (a : Option Addr) (n : Nat) (Z : Nat → Int) : Prop :=
  ∀ i, i < n → ∃ b off, a = some ⟨b, off, none⟩ ∧ w.cell? ⟨b, off + i, none⟩ = some (.int .i64 (Z i)) ∧ b < w.heap.size
theorem IntsIn.below {w w' : World} {a : Option Addr} {n : Nat} {Z : Nat → Int} (h : IntsIn w a n Z) (hb : Below w.heap.size w w') : IntsIn w' a n Z := fun i hi => by
  obtain ⟨b, off, e, hc, hl⟩ := h i hi
  exact ⟨b, off, e, (hb.cell (by exact hl)).trans hc, Nat.lt_of_lt_of_le hl hb.size⟩
theorem PairsAt.below {w w' : World} {a : Option Addr} {m : Nat} {T C : Nat → Int} (h : PairsAt w a m T C) (hb : Below w.heap.size w w') : PairsAt w' a m T C := fun i hi => by
  obtain ⟨b, off, e, hc, hc', hl⟩ := h i hi
  exact ⟨b, off, e, (hb.cell (by exact hl)).trans hc, (hb.cell (by exact hl)).trans hc', Nat.lt_of_lt_of_le hl hb.size⟩

theorem clone_any (a : Option Addr) (n cap : Nat) (Z : Nat → Int) (hn : n ≤ 4096) (w : World) (h0 : a = none → n = 0 ∧ cap = 0) (hc : IntsIn w a n Z) :
    Calls Try.prog 8 #[.slice a n cap] w fun e w' => ∃ ha hcap, e = .returned (.slice ha n hcap) ∧ (0 < n → ∃ H, ha = some ⟨H, 0, none⟩ ∧ w'.rowIs H 3 n (fun i => .int .i64 (Z i))) ∧ (∀ b, ha = some ⟨b, 0, none⟩ → w.heap.size ≤ b ∧ b < w'.heap.size) ∧ Below w.heap.size w w' := by
  cases a with
  | none =>
    obtain ⟨rfl, rfl⟩ := h0 rfl
    refine (clone_nil w).mono ?_
    rintro e w' ⟨rfl, rfl⟩
    exact ⟨_, _, rfl, fun h => absurd h (by omega), fun b h => (by cases h), Below.refl _ _⟩
  | some ad =>
    refine (clone_some ad n cap Z hn w (fun i hi => ?_)).mono ?_
    · obtain ⟨b, off, e, hc⟩ := hc i hi
      exact ⟨b, off, by injection e, hc⟩
    · rintro e w' ⟨rfl, hr, hb⟩
      refine ⟨_, _, rfl, fun _ => ⟨_, rfl, hr⟩, fun b h => ?_, hb⟩
      injection h with h; injection h with h; subst h
      exact ⟨Nat.le_refl _, hr.lt⟩

theorem terms_any (a : Option Addr) (m cap : Nat) (T C : Nat → Int) (hm : m ≤ 4096) (w : World) (h0 : a = none → m = 0 ∧ cap = 0) (hc : PairsAt w a m T C) :
    Calls Try.prog 11 #[.slice a m cap] w fun e w' => ∃ ta tc, e = .returned (.slice ta m tc) ∧ (0 < m → ∃ tb, ta = some ⟨tb, 0, none⟩ ∧ w.heap.size ≤ tb ∧ w'.rowIs tb 53 (m * 2) (pairC T C m)) ∧ Below w.heap.size w w' := by
  cases a with
  | none =>
    obtain ⟨rfl, rfl⟩ := h0 rfl
    refine (terms_nil w).mono ?_
    rintro e w' ⟨rfl, rfl⟩
    exact ⟨_, _, rfl, fun h => absurd h (by omega), Below.refl _ _⟩
  | some ad =>
    refine (terms_some ad m cap T C hm w hc).mono ?_
    rintro e w' ⟨rfl, hr, hb⟩
    exact ⟨_, _, rfl, fun _ => ⟨_, rfl, Nat.le_refl _, hr⟩, hb⟩

/-- The frequencies of a document of m pairs. -/
def Freq (B : Nat) (w : World) (fa : Option Addr) (fl n m : Nat) (T C : Nat → Int) : Prop :=
  (m = 0 ∧ fa = none ∧ fl = 0) ∨ (0 < m ∧ fl = n ∧ ∃ g, fa = some ⟨g, 0, none⟩ ∧ B ≤ g ∧ w.rowIs g 3 n (fun i => .int .i64 (frq T C m i)))

/-- A field's own holding. -/
def HoldAt (w : World) (F : Nat) (ha : Option Addr) (n : Nat) (Z : Nat → Int) : Prop :=
  0 < n → ∃ H, ha = some ⟨H, 0, none⟩ ∧ F ≠ H ∧ w.rowIs H 3 n (fun i => .int .i64 (Z i))

theorem HoldAt.kept {w w' : World} {S : Nat → Prop} {F n : Nat} {ha : Option Addr} {Z : Nat → Int} (h : HoldAt w F ha n Z) (k : Kept S w w') (hs : ∀ b, ha = some ⟨b, 0, none⟩ → ¬ S b) : HoldAt w' F ha n Z := fun h0 => by
  obtain ⟨H, e, hne, hr⟩ := h h0
  exact ⟨H, e, hne, k.row hr (hs H e)⟩
theorem kept_of_below {B : Nat} {w w' : World} (h : Below B w w') : Kept (fun b => B ≤ b) w w' := ⟨h.os, h.tape, h.output, h.size, fun k _ h2 => h.block k (by omega)⟩
theorem hold_lt {w : World} {F n : Nat} {ha : Option Addr} {Z : Nat → Int} (h : HoldAt w F ha n Z) (hn : 0 < n) {b : Nat} (e : ha = some ⟨b, 0, none⟩) : b < w.heap.size := by
  obtain ⟨H, e', _, hr⟩ := h hn
  rw [e] at e'; injection e' with e'; injection e' with e'; subst e'; exact hr.lt
theorem Freq.kept {w w' : World} {S : Nat → Prop} {B fl n m : Nat} {fa : Option Addr} {T C : Nat → Int} (h : Freq B w fa fl n m T C) (k : Kept S w w') (hs : ∀ b, B ≤ b → ¬ S b) : Freq B w' fa fl n m T C := by
  rcases h with h | ⟨h0, h1, g, e, hg, hr⟩
  · exact .inl h
  · exact .inr ⟨h0, h1, g, e, hg, k.row hr (hs g hg)⟩

theorem Freq.below {w w' : World} {B fl n m : Nat} {fa : Option Addr} {T C : Nat → Int} (h : Freq B w fa fl n m T C) (k : Below w.heap.size w w') : Freq B w' fa fl n m T C := by
  rcases h with h | ⟨h0, h1, g, e, hg, hr⟩
  · exact .inl h
  · exact .inr ⟨h0, h1, g, e, hg, hr.of_block (k.block _ hr.lt)⟩
theorem HoldAt.below {w w' : World} {F n : Nat} {ha : Option Addr} {Z : Nat → Int} (h : HoldAt w F ha n Z) (k : Below w.heap.size w w') : HoldAt w' F ha n Z := fun h0 => by
  obtain ⟨H, e, hne, hr⟩ := h h0
  exact ⟨H, e, hne, hr.of_block (k.block _ hr.lt)⟩

theorem add_any (F n hcap m tc : Nat) (ha ta : Option Addr) (d t tok : Int) (Z T C : Nat → Int) (w : World) (hn : n ≤ 4096) (hm : m ≤ 4096) (hd : Dist T n m) (hF : FldAt w F (.slice ha n hcap) d t)
    (hH : HoldAt w F ha n Z) (hT : 0 < m → ∃ tb, ta = some ⟨tb, 0, none⟩ ∧ F ≠ tb ∧ ha ≠ some ⟨tb, 0, none⟩ ∧ w.rowIs tb 53 (m * 2) (pairC T C m)) :
    Calls Try.prog 10 #[.pointer (some ⟨F, 0, none⟩), .int .i64 tok, .slice ta m tc] w fun e w' => ∃ fa fl, e = .returned (.agg #[.int .i64 tok, .slice fa fl fl]) ∧
      Freq w.heap.size w' fa fl n m T C ∧ HoldAt w' F ha n (hvv Z T m) ∧ FldAt w' F (.slice ha n hcap) (wrap64 (d + 1)) (wrap64 (t + tok)) ∧ Kept (fun b => b = F ∨ ha = some ⟨b, 0, none⟩) w w' := by
  by_cases h0 : m = 0
  · subst h0
    refine (add_none F _ d t tok ta tc w hF).mono ?_
    rintro e w' ⟨rfl, hf, hk⟩
    refine ⟨_, _, rfl, .inl ⟨rfl, rfl, rfl⟩, fun h => ?_, hf, ⟨hk.os, hk.tape, hk.output, hk.size, fun k h1 h2 => hk.block k h1 (fun h => h2 (.inl h))⟩⟩
    obtain ⟨H, e, hne, hr⟩ := hH h
    exact ⟨H, e, hne, hk.row hr (fun h => hne h.symm)⟩
  · have hm0 : 0 < m := by omega
    have hn0 : 0 < n := by have := hd 0 hm0; omega
    obtain ⟨H, rfl, hne, hr⟩ := hH hn0
    obtain ⟨tb, rfl, htF, htH, htr⟩ := hT hm0
    refine (add_some F H n hcap m tc d t tok Z T C tb w hn hm hm0 hne htF (fun h => htH (by rw [h])) hF hr htr hd).mono ?_
    rintro e w' ⟨g, rfl, hg, hgr, hhr, hf, hk⟩
    refine ⟨_, _, rfl, .inr ⟨hm0, rfl, g, rfl, hg, hgr⟩, fun _ => ⟨H, rfl, hne, hhr⟩, hf, ⟨hk.os, hk.tape, hk.output, hk.size, fun k h1 h2 => hk.block k h1 ?_⟩⟩
    rintro (h | h)
    · exact h2 (.inl h)
    · exact h2 (.inr (by rw [h]))

/-- A field of the call's own, in blocks B .. F. -/
structure Fd (B : Nat) (w : World) (F : Nat) (ha : Option Addr) (n hcap : Nat) (Z : Nat → Int) (d t : Int) : Prop where
  fld : FldAt w F (.slice ha n hcap) d t
  hold : HoldAt w F ha n Z
  lo : B ≤ F
  hi : ∀ b, ha = some ⟨b, 0, none⟩ → B ≤ b ∧ b < F

theorem Fd.lt {B : Nat} {w : World} {F : Nat} {ha : Option Addr} {n hcap : Nat} {Z : Nat → Int} {d t : Int} (h : Fd B w F ha n hcap Z d t) : F < w.heap.size := h.fld.lt

theorem Fd.kept {B : Nat} {w w' : World} {S : Nat → Prop} {F : Nat} {ha : Option Addr} {n hcap : Nat} {Z : Nat → Int} {d t : Int} (h : Fd B w F ha n hcap Z d t) (k : Kept S w w') (hs : ∀ b, B ≤ b → b ≤ F → ¬ S b) : Fd B w' F ha n hcap Z d t :=
  ⟨h.fld.kept k (hs F h.lo (Nat.le_refl _)), h.hold.kept k (fun b e => by obtain ⟨h1, h2⟩ := h.hi b e; exact hs b h1 (by omega)), h.lo, h.hi⟩

theorem Fd.below {B : Nat} {w w' : World} {F : Nat} {ha : Option Addr} {n hcap : Nat} {Z : Nat → Int} {d t : Int} (h : Fd B w F ha n hcap Z d t) (k : Below w.heap.size w w') : Fd B w' F ha n hcap Z d t :=
  ⟨h.fld.of_block (k.block _ h.lt), h.hold.below k, h.lo, h.hi⟩

theorem fd_new {w1 w2 w3 : World} {ha : Option Addr} {n hcap : Nat} {Z : Nat → Int} {d t : Int} (hH : 0 < n → ∃ H, ha = some ⟨H, 0, none⟩ ∧ w2.rowIs H 3 n (fun i => .int .i64 (Z i)))
    (hl : ∀ b, ha = some ⟨b, 0, none⟩ → w1.heap.size ≤ b ∧ b < w2.heap.size) (hb2 : Below w1.heap.size w1 w2) (hF : FldAt w3 w2.heap.size (.slice ha n hcap) d t) (hb3 : Below w2.heap.size w2 w3) :
    Fd w1.heap.size w3 w2.heap.size ha n hcap Z d t :=
  ⟨hF, fun h => by
    obtain ⟨H, e, hr⟩ := hH h
    exact ⟨H, e, Nat.ne_of_gt hr.lt, hr.of_block (hb3.block _ hr.lt)⟩, hb2.size, hl⟩

theorem add_fd (B F n hcap m tc : Nat) (ha ta : Option Addr) (d t tok : Int) (Z T C : Nat → Int) (w : World) (hn : n ≤ 4096) (hm : m ≤ 4096) (hd : Dist T n m) (hF : Fd B w F ha n hcap Z d t)
    (hT : 0 < m → ∃ tb, ta = some ⟨tb, 0, none⟩ ∧ F < tb ∧ w.rowIs tb 53 (m * 2) (pairC T C m)) :
    Calls Try.prog 10 #[.pointer (some ⟨F, 0, none⟩), .int .i64 tok, .slice ta m tc] w fun e w' => ∃ fa fl, e = .returned (.agg #[.int .i64 tok, .slice fa fl fl]) ∧
      Freq w.heap.size w' fa fl n m T C ∧ Fd B w' F ha n hcap (hvv Z T m) (wrap64 (d + 1)) (wrap64 (t + tok)) ∧ Kept (fun b => B ≤ b ∧ b ≤ F) w w' := by
  refine (add_any F n hcap m tc ha ta d t tok Z T C w hn hm hd hF.fld hF.hold (fun h => ?_)).mono ?_
  · obtain ⟨tb, e, h1, h2⟩ := hT h
    refine ⟨tb, e, by omega, fun e' => ?_, h2⟩
    have := hF.hi tb e'
    omega
  · rintro e w' ⟨fa, fl, rfl, hq, hh, hf, hk⟩
    refine ⟨fa, fl, rfl, hq, ⟨hf, hh, hF.lo, hF.hi⟩, ⟨hk.os, hk.tape, hk.output, hk.size, fun k h1 h2 => hk.block k h1 ?_⟩⟩
    rintro (h | h)
    · subst h; exact h2 ⟨hF.lo, Nat.le_refl _⟩
    · obtain ⟨h3, h4⟩ := hF.hi k h; exact h2 ⟨h3, by omega⟩

end Go.Proofs.Qxb6631289a
