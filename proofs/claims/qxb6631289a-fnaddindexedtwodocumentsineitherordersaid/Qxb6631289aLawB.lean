import Derived.Test.Qxb6631289aLawB0
import Derived.Test.Qxb6631289aLawB1
namespace Go.Proofs.Qxb6631289a
open Go.ChangeShapes Go.WideShapes Go.ChangeAt Go.RowKit
attribute [local go_sem] eql22 eql23 neq22

/-- What the law's last loop reads. -/
structure Env2 (w0 wr : World) (a0 a4 a6 ha hb : Option Addr) (n m k F G : Nat) (Z T C U V : Nat → Int) : Prop where
  ints : IntsIn wr a0 n Z
  pairs : PairsAt wr a4 m T C
  pairs2 : PairsAt wr a6 k U V
  hold : HoldAt wr F ha n (hvv (hvv Z T m) U k)
  hold2 : HoldAt wr G hb n (hvv (hvv Z U k) T m)
  bel : Below w0.heap.size w0 wr
theorem Env2.below {w0 wr wx : World} {a0 a4 a6 ha hb : Option Addr} {n m k F G : Nat} {Z T C U V : Nat → Int} (h : Env2 w0 wr a0 a4 a6 ha hb n m k F G Z T C U V) (q : Below wr.heap.size wr wx) :
    Env2 w0 wx a0 a4 a6 ha hb n m k F G Z T C U V :=
  ⟨h.ints.below q, h.pairs.below q, h.pairs2.below q, h.hold.below q, h.hold2.below q, h.bel.trans (q.mono h.bel.size)⟩

/-- One more where the document holds the term. -/
def inc (b : Bool) (z : Int) : Int := if b = true then wrap64 (z + 1) else z
theorem hvv_inc {Z T : Nat → Int} {n m i : Nat} (hd : Dist T n m) : hvv Z T m i = inc (hldB T m i) (Z i) := hvv_is hd

set_option maxRecDepth 100000 in
set_option maxHeartbeats 4000000 in
theorem law2 (a0 : Option Addr) (n c0 : Nat) (d t x : Int) (a4 : Option Addr) (m c4 : Nat) (y : Int) (a6 : Option Addr) (k c6 : Nat) (Z T C U V : Nat → Int) (w : World) (hz : n ≤ maxLen) (hzm : m ≤ maxLen) (hzk : k ≤ maxLen)
    (h0 : a0 = none → n = 0 ∧ c0 = 0) (h4 : a4 = none → m = 0 ∧ c4 = 0) (h6 : a6 = none → k = 0 ∧ c6 = 0) (hc0 : IntsIn w a0 n Z) (hc4 : PairsAt w a4 m T C) (hc6 : PairsAt w a6 k U V) :
    Calls Try.prog 4 #[.slice a0 n c0, .int .i64 d, .int .i64 t, .int .i64 x, .slice a4 m c4, .int .i64 y, .slice a6 k c6] w fun e w' => e = .returned (.bool true) ∧ Below w.heap.size w w' := by
  go_enter Try.func4, Try.ntmps4
  go_wp2_with fail
  refine (bytes2_any a0 a4 a6 n c0 m c4 k c6 d t x y hz hzm hzk w).mono ?_
  rintro e w' ⟨⟨b, rfl⟩, rfl⟩
  unfold maxLen at hz hzm hzk
  cases b with
  | false =>
    go_wp2
    go_ret
    exact ⟨rfl, Below.refl _ _⟩
  | true =>
  by_cases hn : n ≤ 4096
  case neg =>
    go_wp2
    go_ret
    exact ⟨rfl, Below.refl _ _⟩
  by_cases hm : m ≤ 4096
  case neg =>
    have d0 : decide ((4096 : Int) < (n : Int)) = false := decide_eq_false (by omega)
    go_wp2
    go_ret
    exact ⟨rfl, Below.refl _ _⟩
  by_cases hk : k ≤ 4096
  case neg =>
    have d0 : decide ((4096 : Int) < (n : Int)) = false := decide_eq_false (by omega)
    have d1 : decide ((4096 : Int) < (m : Int)) = false := decide_eq_false (by omega)
    go_wp2
    go_ret
    exact ⟨rfl, Below.refl _ _⟩
  have d0 : decide ((4096 : Int) < (n : Int)) = false := decide_eq_false (by omega)
  have d1 : decide ((4096 : Int) < (m : Int)) = false := decide_eq_false (by omega)
  have d2 : decide ((4096 : Int) < (k : Int)) = false := decide_eq_false (by omega)
  clear hz hzm hzk
  go_wp2_with fail
  refine (reach_any a0 n c0 Z d t hn _ (fun i hi => ?_)).mono ?_
  · obtain ⟨b, off, e, hc, _⟩ := hc0 i hi
    exact ⟨b, off, e, hc⟩
  rintro e w' ⟨⟨b, rfl⟩, rfl⟩
  cases b with
  | false =>
    go_wp2
    go_ret
    exact ⟨rfl, Below.refl _ _⟩
  | true =>
  go_wp2_with fail
  refine (distinct_any a4 m c4 n T hm hn _ (fun i hi => ?_)).mono ?_
  · obtain ⟨b, off, e, hc, _, hl⟩ := hc4 i hi
    exact ⟨b, off, e, hc, hl⟩
  rintro e w0 ⟨⟨b, rfl, hdist⟩, hb0⟩
  cases b with
  | false =>
    go_wp2
    go_ret
    exact ⟨rfl, hb0⟩
  | true =>
  have hdT := hdist rfl
  clear hdist
  go_wp2_with fail
  refine (distinct_any a6 k c6 n U hk hn _ (fun i hi => ?_)).mono ?_
  · obtain ⟨b, off, e, hc, _, hl⟩ := (hc6.below hb0) i hi
    exact ⟨b, off, e, hc, hl⟩
  rintro e w1 ⟨⟨b, rfl, hdist⟩, hb1⟩
  have hB1 := hb0.trans (hb1.mono hb0.size)
  clear hb0 hb1
  cases b with
  | false =>
    go_wp2
    go_ret
    exact ⟨rfl, hB1⟩
  | true =>
  have hdU := hdist rfl
  clear hdist
  -- the first field
  go_wp2_with fail
  refine (clone_any a0 n c0 Z hn _ h0 (hc0.below hB1)).mono ?_
  rintro e w2 ⟨ha, hcap, rfl, hH, hHl, hb2⟩
  go_wp2_with fail
  refine (newField_any ha n hcap d t _).mono ?_
  rintro e w3 ⟨rfl, hF, hb3⟩
  have hfd := fd_new hH hHl hb2 hF hb3
  have hB3 : Below w'.heap.size w' w3 := hB1.trans ((hb2.mono hB1.size).trans (hb3.mono (Nat.le_trans hB1.size hb2.size)))
  have sB1 := hB1.size
  clear hH hHl hF hb3 hb2 hB1
  go_wp2_with fail
  refine (terms_any a4 m c4 T C hm _ h4 (hc4.below hB3)).mono ?_
  rintro e w4 ⟨ta, tc, rfl, hta, hb4⟩
  have l4 := hfd.lt
  have hfd := hfd.below hb4
  have l4' := hfd.lt
  have hB4 := hB3.trans (hb4.mono hB3.size)
  clear hB3 hb4
  go_wp2_with fail
  refine (add_fd w1.heap.size w2.heap.size n hcap m tc ha ta d t x Z T C _ hn hm hdT hfd (fun h => ?_)).mono ?_
  · obtain ⟨tb, e, h1, h2⟩ := hta h
    exact ⟨tb, e, by omega, h2⟩
  rintro e w5 ⟨fa, fl, rfl, hfq, hfd5, hk5⟩
  have hB5 := hB4.trans (hk5.below hB4.size (fun k h1 h2 => by omega))
  have hone := one_of hfq hfd5 l4'
  have hB5 := hB5.alloc hB5.size (.cells #[.int .i64 x, .slice fa fl fl] 31)
  clear hfq hfd5 hk5 hB4 hta l4 l4'
  clear hfd
  go_wp2_with fail
  refine (terms_any a6 k c6 U V hk _ h6 (hc6.below hB5)).mono ?_
  rintro e w6 ⟨tb, td, rfl, htb, hb6⟩
  have l6 := hone.fd.lt
  have hone := hone.below hb6
  have hB6 := hB5.trans (hb6.mono hB5.size)
  clear hB5 hb6
  go_wp2_with fail
  refine (add_fd w1.heap.size w2.heap.size n hcap k td ha tb _ _ y _ U V _ hn hk hdU hone.fd (fun h => ?_)).mono ?_
  · obtain ⟨tb, e, h1, h2⟩ := htb h
    exact ⟨tb, e, by omega, h2⟩
  rintro e w7 ⟨fb, gl, rfl, hfq, hfd7, hk7⟩
  have hB7 := hB6.trans (hk7.below hB6.size (fun k h1 h2 => by omega))
  have htwo := two_of hone hfq hfd7 hk7
  have hB7 := hB7.alloc hB7.size (.cells #[.int .i64 y, .slice fb gl gl] 31)
  clear hfq hfd7 hk7 hB6 htb l6 hone
  -- the second field
  go_wp2_with fail
  generalize (w7.alloc (.cells #[.int .i64 y, .slice fb gl gl] 31)) = w8 at *
  have sB8 := hB7.size
  refine (clone_any a0 n c0 Z hn _ h0 (hc0.below hB7)).mono ?_
  rintro e w9 ⟨hb, hdap, rfl, hH, hHl, hb9⟩
  go_wp2_with fail
  refine (newField_any hb n hdap d t _).mono ?_
  rintro e w10 ⟨rfl, hF, hb10⟩
  have hfd := fd_new hH hHl hb9 hF hb10
  have hC10 : Below w8.heap.size w8 w10 := hb9.trans (hb10.mono hb9.size)
  clear hH hHl hF hb10 hb9
  go_wp2_with fail
  refine (terms_any a6 k c6 U V hk _ h6 (hc6.below (hB7.trans (hC10.mono sB8)))).mono ?_
  rintro e w11 ⟨tb, td, rfl, htb, hb11⟩
  have l4 := hfd.lt
  have hfd := hfd.below hb11
  have l4' := hfd.lt
  have hC11 := hC10.trans (hb11.mono hC10.size)
  clear hC10 hb11
  go_wp2_with fail
  refine (add_fd w8.heap.size w9.heap.size n hdap k td hb tb d t y Z U V _ hn hk hdU hfd (fun h => ?_)).mono ?_
  · obtain ⟨tb, e, h1, h2⟩ := htb h
    exact ⟨tb, e, by omega, h2⟩
  rintro e w12 ⟨ga, gm, rfl, hfq, hfd12, hk12⟩
  have hC12 := hC11.trans (hk12.below hC11.size (fun k h1 h2 => by omega))
  have hone := one_of hfq hfd12 l4'
  have hC12 := hC12.alloc hC12.size (.cells #[.int .i64 y, .slice ga gm gm] 31)
  clear hfq hfd12 hk12 hC11 htb l4 l4'
  clear hfd
  go_wp2_with fail
  generalize hs12 : w12.heap.size = X2 at *
  generalize (w12.alloc (.cells #[.int .i64 y, .slice ga gm gm] 31)) = w13 at *
  clear hs12
  refine (terms_any a4 m c4 T C hm _ h4 (hc4.below (hB7.trans (hC12.mono sB8)))).mono ?_
  rintro e w14 ⟨tb, td, rfl, htb, hb14⟩
  have l6 := hone.fd.lt
  have hone := hone.below hb14
  have hC14 := hC12.trans (hb14.mono hC12.size)
  clear hC12 hb14
  go_wp2_with fail
  refine (add_fd w8.heap.size w9.heap.size n hdap m td hb tb _ _ x _ T C _ hn hm hdT hone.fd (fun h => ?_)).mono ?_
  · obtain ⟨tb, e, h1, h2⟩ := htb h
    exact ⟨tb, e, by omega, h2⟩
  rintro e w15 ⟨gb, hl, rfl, hfq, hfd15, hk15⟩
  have hC15 := hC14.trans (hk15.below hC14.size (fun k h1 h2 => by omega))
  have htwo2 := two_of hone hfq hfd15 hk15
  have hC15 := hC15.alloc hC15.size (.cells #[.int .i64 x, .slice gb hl hl] 31)
  have htwo := htwo.below hC15
  have hB15 := hB7.trans (hC15.mono sB8)
  clear hfq hfd15 hk15 hC14 htb l6 hone hC15 hB7 sB8 sB1 h0 h4 h6
  have ca0 : _ = some (Value.int .i64 x) := htwo.cA.cell (i := 0) (by omega)
  have ca1 : _ = some (Value.slice fa fl fl) := htwo.cA.cell (i := 1) (by omega)
  have cb0 : _ = some (Value.int .i64 y) := htwo.cB.cell (i := 0) (by omega)
  have cb1 : _ = some (Value.slice fb gl gl) := htwo.cB.cell (i := 1) (by omega)
  have cc0 : _ = some (Value.int .i64 y) := htwo2.cA.cell (i := 0) (by omega)
  have cc1 : _ = some (Value.slice ga gm gm) := htwo2.cA.cell (i := 1) (by omega)
  have cd0 : _ = some (Value.int .i64 x) := htwo2.cB.cell (i := 0) (by omega)
  have cd1 : _ = some (Value.slice gb hl hl) := htwo2.cB.cell (i := 1) (by omega)
  go_wp2_with fail
  refine (same_any x fa gb fl hl n m _ _ T C _ hn htwo.fqA htwo2.fqB).mono ?_
  rintro e w16 ⟨rfl, hb16⟩
  clear ca0 ca1 cb0 cb1 cc0 cc1 cd0 cd1
  have htwo := htwo.below hb16
  have htwo2 := htwo2.below hb16
  have hB16 := hB15.trans (hb16.mono hB15.size)
  clear hb16 hB15
  have cb0 : _ = some (Value.int .i64 y) := htwo.cB.cell (i := 0) (by omega)
  have cb1 : _ = some (Value.slice fb gl gl) := htwo.cB.cell (i := 1) (by omega)
  have cc0 : _ = some (Value.int .i64 y) := htwo2.cA.cell (i := 0) (by omega)
  have cc1 : _ = some (Value.slice ga gm gm) := htwo2.cA.cell (i := 1) (by omega)
  go_wp2_with fail
  refine (same_any y fb ga gl gm n k _ _ U V _ hn htwo.fqB htwo2.fqA).mono ?_
  rintro e w17 ⟨rfl, hb17⟩
  clear cb0 cb1 cc0 cc1
  have htwo := htwo.below hb17
  have htwo2 := htwo2.below hb17
  have hB17 := hB16.trans (hb17.mono hB16.size)
  clear hb17 hB16
  have ca0 : _ = some (Value.int .i64 x) := htwo.cA.cell (i := 0) (by omega)
  have ca1 : _ = some (Value.slice fa fl fl) := htwo.cA.cell (i := 1) (by omega)
  have cb0 : _ = some (Value.int .i64 y) := htwo.cB.cell (i := 0) (by omega)
  have cb1 : _ = some (Value.slice fb gl gl) := htwo.cB.cell (i := 1) (by omega)
  have lcA := htwo.cA.lt
  have lcB := htwo.cB.lt
  go_wp2_with fail
  refine (len_any x (.slice fa fl fl) rfl _).mono ?_
  rintro e w18 ⟨rfl, rfl⟩
  go_wp2_with fail
  refine (len_any y (.slice fb gl gl) rfl _).mono ?_
  rintro e w18 ⟨rfl, rfl⟩
  go_wp2_with fail
  have hb18 : Below w17.heap.size w17 ((w17.alloc (.cells #[.int .i64 x, .slice fa fl fl] 31)).alloc (.cells #[.int .i64 y, .slice fb gl gl] 31)) := (alloc_below _ _).alloc (by simp) _
  have htwo := htwo.below hb18
  have htwo2 := htwo2.below hb18
  have hB18 := hB17.trans (hb18.mono hB17.size)
  clear hb18 hB17 ca0 ca1 cb0 cb1 lcA lcB
  generalize ((w17.alloc (.cells #[.int .i64 x, .slice fa fl fl] 31)).alloc (.cells #[.int .i64 y, .slice fb gl gl] 31)) = w18 at *
  have hdd := wrap_12 d
  have htt := wrap_ab t x y
  refine (docs_any _ _ _ _ _ htwo.fd.fld).mono ?_
  rintro e w19 ⟨rfl, rfl⟩
  go_wp2_with fail
  refine (docs_any _ _ _ _ _ htwo2.fd.fld).mono ?_
  rintro e w19 ⟨rfl, rfl⟩
  go_wp2_with fail
  refine (toks_any _ _ _ _ _ htwo.fd.fld).mono ?_
  rintro e w19 ⟨rfl, rfl⟩
  go_wp2_with fail
  refine (toks_any _ _ _ _ _ htwo2.fd.fld).mono ?_
  rintro e w19 ⟨rfl, rfl⟩
  go_wp2_with fail
  refine (hold_any _ _ _ _ _ htwo.fd.fld).mono ?_
  rintro e w19 ⟨rfl, rfl⟩
  go_wp2_with fail
  refine (hold_any _ _ _ _ _ htwo2.fd.fld).mono ?_
  rintro e w19 ⟨rfl, rfl⟩
  clear hdd htt
  have henv : Env2 w' _ a0 a4 a6 ha hb n m k w2.heap.size w9.heap.size Z T C U V := ⟨hc0.below hB18, hc4.below hB18, hc6.below hB18, htwo.fd.hold, htwo2.fd.hold, hB18⟩
  clear htwo htwo2 hB18 hc0 hc4 hc6 d0 d1 d2
  clear htwo htwo2
  clear htwo htwo2
  clear htwo htwo2
  go_wp2
  go_loopw [25] (fun i wr => ∃ j : Nat, j ≤ n ∧ i = .int .i64 j ∧ Env2 w' wr a0 a4 a6 ha hb n m k w2.heap.size w9.heap.size Z T C U V) (fun i _ => n - (intOf i).toNat)
  case atStart => exact ⟨0, Nat.zero_le _, rfl, henv⟩
  case round =>
    clear henv
    obtain ⟨j, hj, rfl, henv⟩ := hrel
    by_cases hlt : j < n
    · go_wp2_with fail
      refine (lookup_any a4 m c4 n j T C hm hdT wr henv.pairs).mono ?_
      rintro e wx ⟨rfl, hbx⟩
      have henv := henv.below hbx
      clear hbx
      go_wp2_with fail
      refine (lookup_any a6 k c6 n j U V hk hdU wx henv.pairs2).mono ?_
      rintro e wy ⟨rfl, hby⟩
      have henv := henv.below hby
      clear hby
      obtain ⟨b, off, rfl, hcell, _⟩ := henv.ints j hlt
      obtain ⟨H, rfl, _, hrow⟩ := henv.hold (by omega)
      obtain ⟨G, rfl, _, hrow2⟩ := henv.hold2 (by omega)
      have hch := hrow.cell hlt
      have hcg := hrow2.cell hlt
      rw [hvv_inc hdU, hvv_inc hdT] at hch
      rw [hvv_inc hdT, hvv_inc hdU] at hcg
      cases hbT : hldB T m j <;> cases hbU : hldB U k j <;> rw [hbT, hbU] at hch hcg
      all_goals
        simp only [inc, if_true, if_false, Bool.false_eq_true] at hch hcg
        go_wp2
        go_roundw
        case rel => exact ⟨j + 1, by omega, by go_num, henv⟩
        case measure => simp [intOf]; omega
    · go_wp2
      go_ret
      exact ⟨rfl, henv.bel⟩
end Go.Proofs.Qxb6631289a
