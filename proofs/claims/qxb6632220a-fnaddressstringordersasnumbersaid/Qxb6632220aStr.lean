import Derived.Test.Qxb6632220aStr0
namespace Go.Proofs.Qxb6632220a
open Go.ChangeShapes Go.WideShapes Go.ChangeAt Go.RowKit

theorem make_txt (z L : Nat) (h : z + L ≤ 4096) (w : World) : (Instr.makeSlice 33 (.int .i64 (z : Int)) (.int .i64 ((z : Int) + (L : Int)))).run Try.prog w = .ok (.slice (some ⟨w.heap.size, 0, none⟩) z (z + L)) (w.alloc (.cells (madeCells #[.int .u8 0] (z + L)) 5)) := by
  obtain ⟨i5, hi5, hz5, hsz5, hby5⟩ := info_parts Try.info5
  have hr := run_make (P := Try.prog) w 33 5 i5 _ Try.underlying33 hi5 hz5 .i64 .i64 (z : Int) ((z : Int) + (L : Int)) (by omega) (by omega) (by rw [hby5]; omega) (by omega)
  rw [hsz5, show ((z : Int) + (L : Int)).toNat = z + L by omega, Int.toNat_natCast, Nat.mul_one] at hr
  exact hr

theorem l5_congr {w wr : World} {dv : Value} {L : Nat} {D : Nat → Nat} {G c n : Nat} {E E' : Nat → Nat} (h : L5 w wr dv L D G c n E) (he : ∀ i, i < n → E i = E' i) : L5 w wr dv L D G c n E' :=
  ⟨h.dig, h.ne, by rw [← rowL_congr he]; exact h.txt, h.bel⟩

set_option maxHeartbeats 2000000 in
theorem str_any (A : Nat → Nat) (hA : ∀ i, i < 32 → A i < 256) (w : World) :
    Calls Try.prog 5 #[.agg (adr A)] w fun e w' => ∃ (z L : Nat) (D : Nat → Nat), e = .returned (.string (txtS z D L)) ∧ Lead A 32 z ∧ Canon D L (pre 256 A 32) ∧ Below w.heap.size w w' := by
  obtain ⟨i5, hi5, hz5, hsz5, hby5⟩ := info_parts Try.info5
  go_enter Try.func5, Try.ntmps5
  go_wp2_with (refine load_adr rfl _ 23 rfl (.inr rfl) A w.heap.size 23 rfl (heap_alloc_new w _) ?_)
  go_loopw [3, 14] (fun v i wr => ∃ (k L : Nat) (D : Nat → Nat), k ≤ 32 ∧ i = .int .i64 k ∧ L1 w wr A k v L D) (fun _ i _ => 32 - (intOf i).toNat)
  case atStart =>
    refine ⟨0, 0, fun _ => 0, by omega, rfl, World.ownsRow_nil _ _ _ _, ⟨fun i hi => absurd hi (by omega), .inl rfl, rfl⟩, by omega, heap_alloc_new w _, ?_⟩
    go_grown
  case round =>
    obtain ⟨k, L, D, hk, rfl, h1⟩ := hrel
    by_cases hlt : k < 32
    · have hix := index_adr A k hlt
      have hAk := hA k hlt
      have hd : decide ((k : Int) < 32) = true := decide_eq_true (by omega)
      obtain ⟨a, cap, rfl, hLc, hcm, hag⟩ := own_shape h1.own
      unfold maxLen at hcm
      go_wp2
      clear hix
      go_loopw [6, 21] (fun c i wr2 => ∃ (j cn : Nat) (D' : Nat → Nat), j ≤ L ∧ i = .int .i64 j ∧ c = .int .u64 cn ∧ L2 w wr2 A k D L (.slice a L cap) j cn D') (fun _ i _ => L - (intOf i).toNat)
      case atStart => exact ⟨0, A k, D, by omega, rfl, rfl, l2_start h1 hAk⟩
      case round =>
        obtain ⟨j, cn, D', hj, rfl, rfl, h2⟩ := hrel
        have hcn := h2.small
        by_cases hjl : j < L
        · obtain ⟨g, rfl⟩ := hag (by omega)
          have hcell : wr.cell? ⟨g, j, none⟩ = some (.int .u8 (D' j)) := by rw [h2.own.cellAt j (by omega), rowL_get _ hjl]
          have hfz := h2.own.frozenAt j
          have hD := h1.can.1 j hjl
          have hD' : D' j < 58 := by rw [h2.same j (Nat.le_refl _)]; exact hD
          have hgl : w.heap.size < g := (h2.own.lt g rfl).1
          go_wp2
          have e1 : ((cn : Int) + (D' j : Int) * 256) % 58 = (((D' j * 256 + cn) % 58 : Nat) : Int) := by omega
          have e2 : ((cn : Int) + (D' j : Int) * 256) / 58 = (((D' j * 256 + cn) / 58 : Nat) : Int) := by omega
          rw [e1, e2]
          go_roundw
          case rel => exact ⟨j + 1, _, _, by omega, by go_num, rfl, l2_step h2 hjl hD hgl⟩
          case measure => simp [intOf]; omega
        · have e : j = L := by omega
          subst e
          have h3 := l3_start h2 h1.can h1.len
          clear h1 h2 hag
          go_wp2
          go_loopw [3, 6] (fun v c wr3 => ∃ (M cn : Nat) (D' : Nat → Nat), c = .int .u64 cn ∧ L3 w wr3 A k v M cn D') (fun _ c _ => (intOf c).toNat)
          case atStart => exact ⟨_, _, _, rfl, h3⟩
          case round =>
            obtain ⟨M, cn, D', rfl, h3⟩ := hrel
            have hcn := h3.small
            have hlen := h3.len
            by_cases hc : 0 < cn
            · obtain ⟨a', cap', rfl, hLc', hcm', _⟩ := own_shape h3.own
              unfold maxLen at hcm'
              have hbs := h3.base.2.size
              have hbl := h3.base.1
              have hlt2 : w.heap.size < wr.heap.size := (Array.getElem?_eq_some_iff.1 hbl).1
              clear hbl
              go_wp2_with (at_builtin; refine wpList_append_own _ rfl _ _ 33 rfl (w.heap.size + 1) 5 i5 (.int .u8 0) 1 1 Try.underlying33 hi5 hz5 hsz5 hby5 rfl (by decide) _ _ _ rfl (h3.own.alloc _) ⟨wr.heap.size, 0, none⟩ 1 1 [.int .u8 ((cn : Int) % 58)] rfl rfl ?c1 ?c2 ?c3 ?c4 ?c5 ?_)
              case c1 => exact cell_one_new _ _ _
              case c2 => intro u hu; simp at hu; subst hu; rfl
              case c3 => unfold maxLen; omega
              case c4 => omega
              case c5 => simp; omega
              intro v' w1 hown' hgrow _
              have hb1 : Base0 w w1 A := base_append h3.base h3.own hgrow hlt2
              clear hgrow
              go_wp2
              have e1 : ((cn : Int) % 58) = ((cn % 58 : Nat) : Int) := by omega
              have e2 : ((cn : Int) / 58) = ((cn / 58 : Nat) : Int) := by omega
              rw [e1] at hown'
              rw [e2]
              go_roundw
              case rel => exact ⟨_, _, _, rfl, l3_step h3 hc hown' hb1⟩
              case measure => simp [intOf]; omega
            · have e0 : cn = 0 := by omega
              subst e0
              go_wp2
              go_roundw
              case rel => exact ⟨k + 1, M, D', by omega, by go_num, l1_next h3⟩
              case measure => simp [intOf]; omega
    · have e32 : k = 32 := by omega
      subst e32
      obtain ⟨a, cap, rfl, hLc, hcm, hag⟩ := own_shape h1.own
      unfold maxLen at hcm
      have hL64 := h1.len
      have hbl := h1.base.1
      have hlt2 : w.heap.size < wr.heap.size := (Array.getElem?_eq_some_iff.1 hbl).1
      clear hbl
      go_wp2
      -- the zeros that lead
      go_loop [9] (fun i => ∃ z : Nat, z ≤ 32 ∧ i = .int .i64 z ∧ ∀ i, i < z → A i = 0) (fun i => 32 - (intOf i).toNat)
      case atStart => exact ⟨0, by omega, rfl, fun i hi => absurd hi (by omega)⟩
      case round =>
        obtain ⟨z, hz, rfl, hzs⟩ := hrel
        have HZ : Hid (∀ i, i < z → A i = 0) := hzs
        clear hzs
        have step : z < 32 → A z = 0 → ∀ i, i < z + 1 → A i = 0 := fun _ h0 i hi => by
          by_cases e : i = z
          · subst e; exact h0
          · exact HZ.out i (by omega)
        have HS : Hid _ := step
        clear step
        by_cases hgo : z < 32 ∧ A z = 0
        · obtain ⟨hz32, h0⟩ := hgo
          have hcz := base_cell h1.base hz32
          have hb1 : ((A z : Int) == 0) = true := by rw [beq_iff_eq]; omega
          have H0 : Hid (A z = 0) := h0
          clear h0
          go_wp2
          go_round
          case rel => exact ⟨z + 1, by omega, by go_num, HS.out hz32 H0.out⟩
          case measure => simp [intOf]; omega
        · have hlead : Lead A 32 z := ⟨hz, HZ.out, by
            by_cases q : z < 32
            · exact .inr fun h => hgo ⟨q, h⟩
            · exact .inl (by omega)⟩
          have hmk : ∀ wx, (Instr.makeSlice 33 (.int .i64 (z : Int)) (.int .i64 ((z : Int) + (L : Int)))).run Try.prog wx = .ok (.slice (some ⟨wx.heap.size, 0, none⟩) z (z + L)) (wx.alloc (.cells (madeCells #[.int .u8 0] (z + L)) 5)) := fun wx => make_txt z L (by omega) wx
          have H5 : Hid _ := l5_start (z := z) h1.own h1.base.2 hlt2 (by omega)
          have HC : Hid _ := h1.can
          have HL : Hid _ := hlead
          clear hlead
          have hcut : decide ((z : Int) < 32) = true → wr.cell? ⟨w.heap.size, z, none⟩ = some (.int .u8 (A z)) ∧ ((A z : Int) == 0) = false := fun q => by
            have q := of_decide_eq_true q
            refine ⟨base_cell h1.base (by omega), ?_⟩
            rw [beq_eq_false_iff_ne]; intro h; exact hgo ⟨by omega, by omega⟩
          have HG : Hid _ := hcut
          clear hgo HS HZ hcut
          cases hq : decide ((z : Int) < 32)
          case' true =>
            obtain ⟨hcz, hb1⟩ := HG.out hq
            have hz32 : z < 32 := by have := of_decide_eq_true hq; omega
          all_goals
            clear HG
            go_wp2
            have h5 := H5.out
            have hcan := HC.out
            have hlead := HL.out
            clear hmk H5 HC HL
            have hGl : w.heap.size < wr.heap.size := hlt2
            clear hlt2
            generalize wr.heap.size = G at *
            go_loopw [69] (fun i w5 => ∃ (j : Nat) (E : Nat → Nat), j ≤ z ∧ i = .int .i64 j ∧ L5 w w5 (.slice a L cap) L D G (z + L) z E ∧ ∀ i, i < j → E i = 49) (fun i _ => z - (intOf i).toNat)
            case atStart => exact ⟨0, _, by omega, rfl, h5, fun i hi => absurd hi (by omega)⟩
            case round =>
              clear h5
              obtain ⟨j, E, hj, rfl, h5, hE⟩ := hrel
              have HE : Hid (∀ i, i < j → E i = 49) := hE
              clear hE
              by_cases hjz : j < z
              · have hct : wr.cell? ⟨G, j, none⟩ = some (.int .u8 (E j)) := by rw [h5.txt.cellAt j (by omega), rowL_get _ hjz]
                have hft := h5.txt.frozenAt j
                go_wp2
                go_roundw
                case rel =>
                  refine ⟨j + 1, _, by omega, by go_num, l5_set h5 j 49, fun i hi => ?_⟩
                  by_cases e : i = j
                  · subst e; rw [upd_same]
                  · rw [upd_other _ _ _ _ e]; exact HE.out i (by omega)
                case measure => simp [intOf]; omega
              · have hez : j = z := by omega
                subst hez
                have h6 := l5_congr h5 (E' := chr j D L) (fun i hi => by rw [HE.out i hi]; unfold chr; rw [if_pos hi])
                clear h5 HE
                have hD58 := hcan.1
                go_wp2
                go_loopw [10, 12] (fun v i w6 => ∃ t : Nat, t ≤ L ∧ v = .slice (some ⟨G, 0, none⟩) (j + t) (j + L) ∧ i = .int .i64 ((L : Int) - 1 - (t : Int)) ∧ L5 w w6 (.slice a L cap) L D G (j + L) (j + t) (chr j D L)) (fun _ i _ => (intOf i + 1).toNat)
                case atStart => exact ⟨0, by omega, rfl, by go_num, h6⟩
                case round =>
                  clear h6
                  obtain ⟨t, ht, rfl, rfl, h6⟩ := hrel
                  have hsz := (h6.txt.lt G rfl).2
                  by_cases htl : t < L
                  · obtain ⟨g, rfl⟩ := hag (by omega)
                    have hcd : wr.cell? ⟨g, L - 1 - t, none⟩ = some (.int .u8 (D (L - 1 - t))) := by rw [h6.dig.cellAt (L - 1 - t) (by omega), rowL_get _ (by omega)]
                    have hdd := hD58 (L - 1 - t) (by omega)
                    have hai := alph_index _ hdd
                    have hal := alph_lt _ hdd
                    go_wp2_with (at_builtin; refine wpList_append_fits _ rfl _ _ 33 rfl (w.heap.size + 1) 5 i5 1 Try.underlying33 hi5 hsz5 G (j + t) (j + L) _ rfl (h6.txt.alloc _) ⟨wr.heap.size, 0, none⟩ 1 1 [.int .u8 (alph (D (L - 1 - t)) : Int)] rfl rfl (cell_one_new _ _ _) (by intro u hu; simp at hu; subst hu; rfl) (by omega) ?_; intro w1 hown' hgrow)
                    have hE : chr j D L (j + t) = alph (D (L - 1 - t)) := by unfold chr; rw [if_neg (by omega), Nat.add_sub_cancel_left]
                    have h7 := l5_push h6 (by omega) hown' hgrow hE
                    clear hown' hgrow h6 hE
                    go_wp2
                    go_roundw
                    case rel => exact ⟨t + 1, by omega, rfl, by go_num, h7⟩
                    case measure => simp [intOf]; omega
                  · have htl' : t = L := by omega
                    subst htl'
                    have hcv := conv_txt h6 hD58
                    go_wp2
                    go_ret
                    exact ⟨j, t, D, rfl, hlead, hcan, h6.bel⟩
end Go.Proofs.Qxb6632220a
