import Derived.Test.Qxb6631289aMid
namespace Go.Proofs.Qxb6631289a
open Go.ChangeShapes Go.WideShapes Go.ChangeAt Go.RowKit
attribute [local go_sem] eql22 eql23 neq22

/-- What the law's last loop reads. -/
structure Env (w0 wr : World) (a0 a4 ha fa : Option Addr) (n m F B fl : Nat) (Z T C : Nat → Int) : Prop where
  ints : IntsIn wr a0 n Z
  pairs : PairsAt wr a4 m T C
  hold : HoldAt wr F ha n (hvv Z T m)
  freq : Freq B wr fa fl n m T C
  bel : Below w0.heap.size w0 wr
theorem Env.below {w0 wr wx : World} {a0 a4 ha fa : Option Addr} {n m F B fl : Nat} {Z T C : Nat → Int} (h : Env w0 wr a0 a4 ha fa n m F B fl Z T C) (k : Below wr.heap.size wr wx) : Env w0 wx a0 a4 ha fa n m F B fl Z T C :=
  ⟨h.ints.below k, h.pairs.below k, h.hold.below k, h.freq.below k, h.bel.trans (k.mono h.bel.size)⟩

set_option maxHeartbeats 1000000 in
theorem law1 (a0 : Option Addr) (n c0 : Nat) (d t tok : Int) (a4 : Option Addr) (m c4 : Nat) (Z T C : Nat → Int) (w : World) (hz : n ≤ maxLen) (hzm : m ≤ maxLen)
    (h0 : a0 = none → n = 0 ∧ c0 = 0) (h4 : a4 = none → m = 0 ∧ c4 = 0) (hc0 : IntsIn w a0 n Z) (hc4 : PairsAt w a4 m T C) :
    Calls Try.prog 3 #[.slice a0 n c0, .int .i64 d, .int .i64 t, .int .i64 tok, .slice a4 m c4] w fun e w' => e = .returned (.bool true) ∧ Below w.heap.size w w' := by
  go_enter Try.func3, Try.ntmps3
  go_wp2_with fail
  refine (bytes_any a0 a4 n c0 m c4 d t tok hz hzm w).mono ?_
  rintro e w' ⟨⟨b, rfl⟩, rfl⟩
  unfold maxLen at hz hzm
  cases b with
  | false =>
    go_wp2
    go_ret
    exact ⟨rfl, Below.refl _ _⟩
  | true =>
    by_cases hn : n ≤ 4096
    · by_cases hm : m ≤ 4096
      · have d0 : decide ((4096 : Int) < (n : Int)) = false := decide_eq_false (by omega)
        have d1 : decide ((4096 : Int) < (m : Int)) = false := decide_eq_false (by omega)
        clear hz hzm
        go_wp2_with fail
        refine (reach_any a0 n c0 Z d t hn _ (fun i hi => ?_)).mono ?_
        · obtain ⟨b, off, e, hc, _⟩ := hc0 i hi
          exact ⟨b, off, e, hc⟩
        rintro e w' ⟨⟨b, rfl⟩, rfl⟩
        cases b with
        | false =>
          go_wp2
          go_ret
          exact ⟨rfl, Below.refl _ _⟩
        | true =>
          go_wp2_with fail
          refine (distinct_any a4 m c4 n T hm hn _ (fun i hi => ?_)).mono ?_
          · obtain ⟨b, off, e, hc, _, hl⟩ := hc4 i hi
            exact ⟨b, off, e, hc, hl⟩
          rintro e w1 ⟨⟨b, rfl, hdist⟩, hb1⟩
          cases b with
          | false =>
            go_wp2
            go_ret
            exact ⟨rfl, hb1⟩
          | true =>
            have hd := hdist rfl
            clear hdist
            go_wp2_with fail
            refine (clone_any a0 n c0 Z hn _ h0 (hc0.below hb1)).mono ?_
            rintro e w2 ⟨ha, hcap, rfl, hH, hHl, hb2⟩
            go_wp2_with fail
            refine (newField_any ha n hcap d t _).mono ?_
            rintro e w3 ⟨rfl, hF, hb3⟩
            have hfd := fd_new hH hHl hb2 hF hb3
            have hB3 : Below w'.heap.size w' w3 := hb1.trans ((hb2.mono hb1.size).trans (hb3.mono (Nat.le_trans hb1.size hb2.size)))
            have s2 := hb1.size
            clear hH hHl hF hb3 hb1 hb2
            go_wp2_with fail
            refine (terms_any a4 m c4 T C hm _ h4 (hc4.below hB3)).mono ?_
            rintro e w4 ⟨ta, tc, rfl, hta, hb4⟩
            have l4 := hfd.lt
            have hfd := hfd.kept (kept_of_below hb4) (fun b h1 h2 h3 => by omega)
            have hB4 := hB3.trans (hb4.mono hB3.size)
            clear hB3 h0 h4
            go_wp2_with fail
            refine (add_fd w1.heap.size w2.heap.size n hcap m tc ha ta d t tok Z T C _ hn hm hd hfd (fun h => ?_)).mono ?_
            · obtain ⟨tb, e, h1, h2⟩ := hta h
              exact ⟨tb, e, by omega, h2⟩
            rintro e w5 ⟨fa, fl, rfl, hfq, hfd5, hk5⟩
            have hb5 : Below w'.heap.size w4 w5 := hk5.below hB4.size (fun k h1 h2 => by omega)
            have hB5 := hB4.trans hb5
            clear hb5 hk5 hB4 hb4 hta hfd
            clear hfd
            have hI5 := hc0.below hB5
            have hP5 := hc4.below hB5
            clear hc0 hc4
            go_wp2_with fail
            refine (len_any tok (.slice fa fl fl) rfl _).mono ?_
            rintro e w6 ⟨rfl, rfl⟩
            go_wp2_with fail
            refine (docs_any w2.heap.size _ _ _ _ ((hfd5.fld.alloc _).alloc _)).mono ?_
            rintro e w6 ⟨rfl, rfl⟩
            go_wp2_with fail
            refine (toks_any w2.heap.size _ _ _ _ ((hfd5.fld.alloc _).alloc _)).mono ?_
            rintro e w6 ⟨rfl, rfl⟩
            go_wp2_with fail
            refine (freqs_any tok (.slice fa fl fl) rfl _).mono ?_
            rintro e w6 ⟨rfl, rfl⟩
            have hW : Below w5.heap.size w5 (((w5.alloc (.cells #[.int .i64 tok, .slice fa fl fl] 31)).alloc (.cells #[.int .i64 tok, .slice fa fl fl] 31)).alloc (.cells #[.int .i64 tok, .slice fa fl fl] 31)) :=
              (((Below.refl _ _).alloc (Nat.le_refl _) _).alloc (by simp) _).alloc (by simp; omega) _
            have hfd7 := hfd5.below hW
            have hI7 := hI5.below hW
            have hP7 := hP5.below hW
            have hq7 := hfq.below hW
            have hB7 := hB5.trans (hW.mono hB5.size)
            clear hfd5 hI5 hP5 hfq hW hB5
            rcases hq7 with ⟨rfl, rfl, rfl⟩ | ⟨hm0, rfl, g, rfl, hg, hgr⟩
            · go_wp2_with fail
              refine (hold_any w2.heap.size _ _ _ _ hfd7.fld).mono ?_
              rintro e w6 ⟨rfl, rfl⟩
              have henv : Env w' _ a0 a4 ha none n 0 w2.heap.size w4.heap.size 0 Z T C := ⟨hI7, hP7, hfd7.hold, .inl ⟨rfl, rfl, rfl⟩, hB7⟩
              clear hI7 hP7 hfd7 hB7
              go_wp2
              go_loopw [17] (fun i wr => ∃ k : Nat, k ≤ n ∧ i = .int .i64 k ∧ Env w' wr a0 a4 ha none n 0 w2.heap.size w4.heap.size 0 Z T C) (fun i _ => n - (intOf i).toNat)
              case atStart => exact ⟨0, Nat.zero_le _, rfl, henv⟩
              case round =>
                obtain ⟨k, hk, rfl, henv⟩ := hrel
                by_cases hlt : k < n
                · go_wp2_with fail
                  refine (lookup_any a4 0 c4 n k T C (by omega) hd wr henv.pairs).mono ?_
                  rintro e wx ⟨rfl, hbx⟩
                  have henv := henv.below hbx
                  obtain ⟨b, off, rfl, hcell, _⟩ := henv.ints k hlt
                  obtain ⟨H, rfl, _, hrow⟩ := henv.hold (by omega)
                  have hch : wx.cell? ⟨H, k, none⟩ = some (.int .i64 (Z k)) := hrow.cell hlt
                  have hb : hldB T 0 k = false := rfl
                  go_wp2
                  go_roundw
                  case rel => exact ⟨k + 1, by omega, by go_num, henv⟩
                  case measure => simp [intOf]; omega
                · go_wp2
                  go_ret
                  exact ⟨rfl, henv.bel⟩
            · have hme : ((m : Int) == 0) = false := by rw [beq_eq_false_iff_ne]; omega
              go_wp2_with fail
              refine (hold_any w2.heap.size _ _ _ _ hfd7.fld).mono ?_
              rintro e w6 ⟨rfl, rfl⟩
              have hmp : decide ((0 : Int) < (m : Int)) = true := decide_eq_true (by omega)
              have henv : Env w' _ a0 a4 ha (some ⟨g, 0, none⟩) fl m w2.heap.size w4.heap.size fl Z T C := ⟨hI7, hP7, hfd7.hold, .inr ⟨hm0, rfl, g, rfl, hg, hgr⟩, hB7⟩
              clear hI7 hP7 hfd7 hB7 hgr
              go_wp2
              go_loopw [17] (fun i wr => ∃ k : Nat, k ≤ fl ∧ i = .int .i64 k ∧ Env w' wr a0 a4 ha (some ⟨g, 0, none⟩) fl m w2.heap.size w4.heap.size fl Z T C) (fun i _ => fl - (intOf i).toNat)
              case atStart => exact ⟨0, Nat.zero_le _, rfl, henv⟩
              case round =>
                obtain ⟨k, hk, rfl, henv⟩ := hrel
                by_cases hlt : k < fl
                · go_wp2_with fail
                  refine (lookup_any a4 m c4 fl k T C (by omega) hd wr henv.pairs).mono ?_
                  rintro e wx ⟨rfl, hbx⟩
                  have henv := henv.below hbx
                  obtain ⟨b, off, rfl, hcell, _⟩ := henv.ints k hlt
                  obtain ⟨H, rfl, _, hrow⟩ := henv.hold (by omega)
                  have hch := hrow.cell hlt
                  rcases henv.freq with ⟨h, _⟩ | ⟨_, _, g', e, _, hgr⟩
                  · omega
                  injection e with e; injection e with e; subst e
                  have hcg := hgr.cell hlt
                  have hv := hvv_is (Z := Z) (i := k) hd
                  cases hb : hldB T m k with
                  | true =>
                    rw [hv, if_pos hb] at hch
                    clear hv
                    go_wp2
                    go_roundw
                    case rel => exact ⟨k + 1, by omega, by go_num, henv⟩
                    case measure => simp [intOf]; omega
                  | false =>
                    rw [hv, if_neg (by rw [hb]; decide)] at hch
                    clear hv
                    go_wp2
                    go_roundw
                    case rel => exact ⟨k + 1, by omega, by go_num, henv⟩
                    case measure => simp [intOf]; omega
                · go_wp2
                  go_ret
                  exact ⟨rfl, henv.bel⟩
      · go_wp2
        go_ret
        exact ⟨rfl, Below.refl _ _⟩
    · go_wp2
      go_ret
      exact ⟨rfl, Below.refl _ _⟩
end Go.Proofs.Qxb6631289a
