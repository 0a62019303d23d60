import Derived.Test.Qxb6631289aMid
namespace Go.Proofs.Qxb6631289a
open Go.ChangeShapes Go.WideShapes Go.ChangeAt Go.RowKit

/-- A field behind its first document, and that document's counts in block X. -/
structure One (B : Nat) (w : World) (F : Nat) (ha : Option Addr) (n hcap : Nat) (Z : Nat → Int) (d t : Int) (X : Nat) (x : Int) (fa : Option Addr) (fl m : Nat) (T C : Nat → Int) : Prop where
  fd : Fd B w F ha n hcap (hvv Z T m) (wrap64 (d + 1)) (wrap64 (t + x))
  fq : Freq (F + 1) w fa fl n m T C
  c : w.rowIs X 31 2 (cntC x (.slice fa fl fl))
  lo : F < X

theorem cnt_row (w : World) (x : Int) (v : Value) : (w.alloc (.cells #[.int .i64 x, v] 31)).rowIs w.heap.size 31 2 (cntC x v) := by
  refine row_new w _ 2 _ 31 _ rfl rfl ?_
  intro i hi
  match i, hi with
  | 0, _ => rfl
  | 1, _ => rfl

theorem Freq.lower {B B' : Nat} {w : World} {fa : Option Addr} {fl n m : Nat} {T C : Nat → Int} (h : Freq B w fa fl n m T C) (hB : B' ≤ B) : Freq B' w fa fl n m T C := by
  rcases h with h | ⟨h0, h1, g, e, hg, hr⟩
  · exact .inl h
  · exact .inr ⟨h0, h1, g, e, by omega, hr⟩

theorem alloc_below (w : World) (o : Obj) : Below w.heap.size w (w.alloc o) := (Below.refl _ _).alloc (Nat.le_refl _) _

section
variable {B F n hcap X fl m : Nat} {w w4 w' : World} {ha fa : Option Addr} {Z T C : Nat → Int} {d t x : Int}

theorem one_of (hq : Freq w4.heap.size w fa fl n m T C) (hf : Fd B w F ha n hcap (hvv Z T m) (wrap64 (d + 1)) (wrap64 (t + x))) (h4 : F < w4.heap.size) :
    One B (w.alloc (.cells #[.int .i64 x, .slice fa fl fl] 31)) F ha n hcap Z d t w.heap.size x fa fl m T C :=
  ⟨hf.below (alloc_below _ _), (hq.lower (by omega)).below (alloc_below _ _), cnt_row _ _ _, hf.lt⟩

theorem One.below (h : One B w F ha n hcap Z d t X x fa fl m T C) (k : Below w.heap.size w w') : One B w' F ha n hcap Z d t X x fa fl m T C :=
  ⟨h.fd.below k, h.fq.below k, h.c.of_block (k.block _ h.c.lt), h.lo⟩
end

/-- A field behind two documents, and their counts in blocks X and Y. -/
structure Two (B : Nat) (w : World) (F : Nat) (ha : Option Addr) (n hcap : Nat) (Z : Nat → Int) (d t : Int) (X : Nat) (x : Int) (fa : Option Addr) (fl m : Nat) (T C : Nat → Int)
    (Y : Nat) (y : Int) (fb : Option Addr) (gl k : Nat) (U V : Nat → Int) : Prop where
  fd : Fd B w F ha n hcap (hvv (hvv Z T m) U k) (wrap64 (wrap64 (d + 1) + 1)) (wrap64 (wrap64 (t + x) + y))
  fqA : Freq (F + 1) w fa fl n m T C
  fqB : Freq (F + 1) w fb gl n k U V
  cA : w.rowIs X 31 2 (cntC x (.slice fa fl fl))
  cB : w.rowIs Y 31 2 (cntC y (.slice fb gl gl))

section
variable {B F n hcap X Y fl gl m k : Nat} {w w6 w' : World} {ha fa fb : Option Addr} {Z T C U V : Nat → Int} {d t x y : Int}
theorem Two.below (h : Two B w F ha n hcap Z d t X x fa fl m T C Y y fb gl k U V) (q : Below w.heap.size w w') : Two B w' F ha n hcap Z d t X x fa fl m T C Y y fb gl k U V :=
  ⟨h.fd.below q, h.fqA.below q, h.fqB.below q, h.cA.of_block (q.block _ h.cA.lt), h.cB.of_block (q.block _ h.cB.lt)⟩

theorem two_of (h : One B w6 F ha n hcap Z d t X x fa fl m T C) (hq : Freq w6.heap.size w fb gl n k U V)
    (hf : Fd B w F ha n hcap (hvv (hvv Z T m) U k) (wrap64 (wrap64 (d + 1) + 1)) (wrap64 (wrap64 (t + x) + y))) (hk : Kept (fun b => B ≤ b ∧ b ≤ F) w6 w) :
    Two B (w.alloc (.cells #[.int .i64 y, .slice fb gl gl] 31)) F ha n hcap Z d t X x fa fl m T C w.heap.size y fb gl k U V := by
  have hl := h.fd.lt
  refine ⟨hf.below (alloc_below _ _), (h.fq.kept hk (fun b h1 h2 => by omega)).below (alloc_below _ _), (hq.lower (by omega)).below (alloc_below _ _), (hk.row h.c (fun h2 => by have := h.lo; omega)).alloc _, cnt_row _ _ _⟩
end

theorem wrap_12 (d : Int) : wrap64 (wrap64 (d + 1) + 1) = wrap64 (d + 2) := by unfold wrap64; omega
theorem wrap_ab (t x y : Int) : wrap64 (wrap64 (t + y) + x) = wrap64 (wrap64 (t + x) + y) := by unfold wrap64; omega
end Go.Proofs.Qxb6631289a
