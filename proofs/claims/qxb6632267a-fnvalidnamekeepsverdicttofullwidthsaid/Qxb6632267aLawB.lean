import Derived.Test.Qxb6632267aLawA
namespace Go.Proofs.Qxb6632267a
open Go.ChangeShapes Go.WideShapes Go.ChangeAt Go.RowKit
set_option linter.unusedSimpArgs false
set_option linter.unusedVariables false

/-- The size of a text in a slot. -/
def szOf : Value → Nat | .string t => t.size | _ => 0

/-- t is s, once or more. -/
def Rep (s t : ByteArray) : Prop := ∃ m, 1 ≤ m ∧ t.size = m * s.size ∧ ∀ i (h : i < t.size) (h' : i % s.size < s.size), t[i]'h = s[i % s.size]'h'

theorem rep_start (s : ByteArray) : Rep s s := by
  refine ⟨1, Nat.le_refl _, by omega, fun i h h' => ?_⟩
  congr 1
  exact (Nat.mod_eq_of_lt h).symm

theorem rep_step {s t : ByteArray} (h : Rep s t) : Rep s (t ++ s) := by
  obtain ⟨m, hm, hsz, hel⟩ := h
  have hs : (t ++ s).size = t.size + s.size := ByteArray.size_append
  refine ⟨m + 1, by omega, by rw [hs, hsz, Nat.add_mul, Nat.one_mul], fun i hi h' => ?_⟩
  by_cases q : i < t.size
  · rw [ByteArray.getElem_append_left q]; exact hel i q h'
  · have q' : t.size ≤ i := by omega
    rw [ByteArray.getElem_append_right q']
    congr 1
    have e : i = (i - t.size) + s.size * m := by rw [Nat.mul_comm, ← hsz]; omega
    rw [e, Nat.add_mul_mod_self_left, hsz, Nat.mul_comm m s.size, Nat.add_sub_cancel]
    exact (Nat.mod_eq_of_lt (by omega)).symm

/-- The first k bytes may stand in a name. -/
def OkTo (t : ByteArray) (k : Nat) : Prop := ∀ i (h : i < t.size), i < k → okc (t[i]'h).toNat = true
theorem OkTo.mono {t : ByteArray} {j k : Nat} (h : OkTo t k) (hjk : j ≤ k) : OkTo t j := fun i hi hj => h i hi (by omega)

theorem vn_cut (t : ByteArray) (k : Nat) (hk : k ≤ t.size) : VN (t.extract 0 k) ↔ 1 ≤ k ∧ k ≤ 64 ∧ OkTo t k := by
  have z := ext_size t 0 k hk
  constructor
  · intro ⟨h1, h2, h3⟩
    refine ⟨by omega, by omega, fun i hi hik => ?_⟩
    have := h3 i (by omega)
    rw [ext_get t 0 k i (by omega) (by omega)] at this
    simpa using this
  · intro ⟨h1, h2, h3⟩
    refine ⟨by omega, by omega, fun i hi => ?_⟩
    rw [ext_get t 0 k i hi (by omega)]
    simpa using h3 i (by omega) (by omega)

theorem ok_rep {s t : ByteArray} (h : Rep s t) (hs : 0 < s.size) (ho : OkTo t s.size) (k : Nat) : OkTo t k := by
  obtain ⟨m, hm, hsz, hel⟩ := h
  intro i hi _
  have hle : s.size ≤ t.size := by rw [hsz]; exact Nat.le_mul_of_pos_left _ hm
  have hl : i % s.size < s.size := Nat.mod_lt _ hs
  have e : t[i]'hi = t[i % s.size]'(by omega) := by
    rw [hel i hi hl, hel (i % s.size) (by omega) (by rw [Nat.mod_mod]; exact hl)]
    congr 1
    rw [Nat.mod_mod]
  rw [e]
  exact ho _ _ hl

set_option maxRecDepth 100000 in
set_option maxHeartbeats 4000000 in
theorem law2 (s : ByteArray) (hs : s.size ≤ maxLen) (w : World) :
    Calls Try.prog 4 #[.string s] w fun e w' => e = .returned (.bool true) ∧ Below w.heap.size w w' := by
  go_enter Try.func4, Try.ntmps4
  go_wp2_with fail
  refine (bytes8_any s hs _).mono ?_
  rintro e w' ⟨⟨b, rfl⟩, rfl⟩
  unfold maxLen at hs
  cases b with
  | false =>
    go_wp2
    go_ret
    exact ⟨rfl, Below.refl _ _⟩
  | true =>
  by_cases hbig : s.size ≤ 1048576
  case neg =>
    go_wp2
    go_ret
    exact ⟨rfl, Below.refl _ _⟩
  have dbig : decide ((1048576 : Int) < (s.size : Int)) = false := decide_eq_false (by omega)
  clear hs
  by_cases h0 : s.size = 0
  · have hb : s.toList.isEmpty = true := by rw [isEmpty_size]; exact decide_eq_true h0
    have H0 : Hid _ := h0
    clear h0
    go_wp2_with fail
    refine (name_any s (by omega) _).mono ?_
    rintro e w1 ⟨⟨b1, rfl, hb1⟩, bel1⟩
    have e1 : b1 = false := by
      cases b1 with
      | false => rfl
      | true => (have := (hb1.1 rfl).1; have := H0.out; omega)
    subst e1
    clear hb1
    go_wp2_with fail
    refine (two_any _).mono ?_
    rintro e wz ⟨rfl, belz⟩
    go_wp2
    go_ret
    exact ⟨rfl, bel1.trans (belz.mono bel1.size)⟩
  have hb : s.toList.isEmpty = false := by rw [isEmpty_size]; exact decide_eq_false h0
  go_wp2
  go_loop [3] (fun v => ∃ t, v = .string t ∧ Rep s t ∧ t.size ≤ 2097152) (fun v => 65 - szOf v)
  case atStart => exact ⟨s, rfl, rep_start s, by omega⟩
  case round =>
    obtain ⟨t, rfl, hrep, hts⟩ := hrel
    by_cases ht : t.size ≤ 64
    · have hsz : (t ++ s).size = t.size + s.size := ByteArray.size_append
      have HS : Hid _ := hsz
      clear hsz
      go_wp2
      go_round
      case rel => exact ⟨_, rfl, rep_step hrep, by rw [HS.out]; omega⟩
      case measure => simp only [szOf]; rw [HS.out]; omega
    · have dt : decide ((t.size : Int) ≤ 64) = false := decide_eq_false (by omega)
      have v64 := vn_cut t 64 (by omega)
      have v65 := vn_cut t 65 (by omega)
      have hle : s.size ≤ t.size := by obtain ⟨m, hm, hsz, _⟩ := hrep; rw [hsz]; exact Nat.le_mul_of_pos_left _ hm
      have vs := vn_cut t s.size hle
      have vk : ∀ k, k ≤ 64 → (VN (t.extract 0 k) ↔ 1 ≤ k ∧ k ≤ 64 ∧ OkTo t k) := fun k hk => vn_cut t k (by omega)
      have hre := ok_rep hrep (by omega)
      have hsame : s.size ≤ 64 → (VN (t.extract 0 64) ↔ VN (t.extract 0 s.size)) := fun q => by
        rw [v64, vs]
        exact ⟨fun h => ⟨by omega, q, h.2.2.mono q⟩, fun h => ⟨by omega, by omega, hre h.2.2 64⟩⟩
      have hno : ¬ VN (t.extract 0 65) := fun h => by have := (v65.1 h).2.1; omega
      have hpre : VN (t.extract 0 64) → ∀ k, 1 ≤ k → k ≤ 64 → VN (t.extract 0 k) := fun h k h1 h2 => (vk k h2).2 ⟨h1, h2, (v64.1 h).2.2.mono h2⟩
      have HM : Hid _ := hsame
      have HN : Hid _ := hno
      have HP : Hid _ := hpre
      have ez := fun k (hk : k ≤ t.size) => ext_size t 0 k hk
      have EZ : Hid _ := ez
      clear v64 v65 vs vk hre hsame hno hpre ez hrep
      by_cases q : 64 < s.size
      · have dq : decide ((64 : Int) < (s.size : Int)) = true := decide_eq_true (by omega)
        go_wp2_with fail
        refine (name_any (t.extract 0 64) (by rw [EZ.out 64 (by omega)]; omega) _).mono ?_
        rintro e w1 ⟨⟨b1, rfl, hb1⟩, bel1⟩
        go_wp2_with fail
        refine (name_any (t.extract 0 64) (by rw [EZ.out 64 (by omega)]; omega) _).mono ?_
        rintro e w2 ⟨⟨b2, rfl, hb2⟩, bel2⟩
        have e2 : b2 = b1 := by rw [Bool.eq_iff_iff, hb1, hb2]
        subst e2
        clear hb2
        have bel2 := bel1.trans (bel2.mono bel1.size)
        clear bel1
        go_wp2_with fail
        refine (name_any (t.extract 0 65) (by rw [EZ.out 65 (by omega)]; omega) _).mono ?_
        rintro e w3 ⟨⟨b3, rfl, hb3⟩, bel3⟩
        have e3 : b3 = false := by
          cases b3 with
          | false => rfl
          | true => exact absurd (hb3.1 rfl) HN.out
        subst e3
        have bel3 := bel2.trans (bel3.mono bel2.size)
        clear hb3 bel2 HM HN
        clear bel2
        cases b2 with
        | false =>
          clear HP hb1
          go_wp2
          go_loopw [6] (fun i wr => ∃ k : Nat, 1 ≤ k ∧ k ≤ 65 ∧ i = .int .i64 k ∧ Below w'.heap.size w' wr) (fun i _ => 65 - (intOf i).toNat)
          case atStart => exact ⟨1, by omega, by omega, rfl, bel3⟩
          case round =>
            clear bel3
            obtain ⟨k, hk1, hk2, rfl, bel3⟩ := hrel
            by_cases hk : k ≤ 64
            · go_wp2
              go_roundw
              case rel => exact ⟨k + 1, by omega, by omega, by go_num, bel3⟩
              case measure => simp [intOf]; omega
            · go_wp2_with fail
              refine (two_any _).mono ?_
              rintro e wz ⟨rfl, belz⟩
              go_wp2
              go_ret
              exact ⟨rfl, bel3.trans (belz.mono bel3.size)⟩
        | true =>
          have HF : Hid _ := HP.out (hb1.1 rfl)
          clear HP hb1
          go_wp2
          go_loopw [6] (fun i wr => ∃ k : Nat, 1 ≤ k ∧ k ≤ 65 ∧ i = .int .i64 k ∧ Below w'.heap.size w' wr) (fun i _ => 65 - (intOf i).toNat)
          case atStart => exact ⟨1, by omega, by omega, rfl, bel3⟩
          case round =>
            clear bel3
            obtain ⟨k, hk1, hk2, rfl, bel3⟩ := hrel
            by_cases hk : k ≤ 64
            · go_wp2_with fail
              refine (name_any (t.extract 0 k) (by rw [EZ.out k (by omega)]; omega) _).mono ?_
              rintro e w4 ⟨⟨b4, rfl, hb4⟩, bel4⟩
              have e4 : b4 = true := hb4.2 (HF.out k hk1 hk)
              subst e4
              have bel4 := bel3.trans (bel4.mono bel3.size)
              clear hb4 bel3
              go_wp2
              go_roundw
              case rel => exact ⟨k + 1, by omega, by omega, by go_num, bel4⟩
              case measure => simp [intOf]; omega
            · go_wp2_with fail
              refine (two_any _).mono ?_
              rintro e wz ⟨rfl, belz⟩
              go_wp2
              go_ret
              exact ⟨rfl, bel3.trans (belz.mono bel3.size)⟩
      · have dq : decide ((64 : Int) < (s.size : Int)) = false := decide_eq_false (by omega)
        go_wp2_with fail
        refine (name_any (t.extract 0 64) (by rw [EZ.out 64 (by omega)]; omega) _).mono ?_
        rintro e w1 ⟨⟨b1, rfl, hb1⟩, bel1⟩
        go_wp2_with fail
        refine (name_any (t.extract 0 s.size) (by rw [EZ.out s.size hle]; omega) _).mono ?_
        rintro e w2 ⟨⟨b2, rfl, hb2⟩, bel2⟩
        have e2 : b2 = b1 := by rw [Bool.eq_iff_iff, hb1, hb2]; exact (HM.out (by omega)).symm
        subst e2
        clear hb2
        have bel2 := bel1.trans (bel2.mono bel1.size)
        clear bel1
        go_wp2_with fail
        refine (name_any (t.extract 0 65) (by rw [EZ.out 65 (by omega)]; omega) _).mono ?_
        rintro e w3 ⟨⟨b3, rfl, hb3⟩, bel3⟩
        have e3 : b3 = false := by
          cases b3 with
          | false => rfl
          | true => exact absurd (hb3.1 rfl) HN.out
        subst e3
        have bel3 := bel2.trans (bel3.mono bel2.size)
        clear hb3 bel2 HM HN
        clear bel2
        cases b2 with
        | false =>
          clear HP hb1
          go_wp2
          go_loopw [6] (fun i wr => ∃ k : Nat, 1 ≤ k ∧ k ≤ 65 ∧ i = .int .i64 k ∧ Below w'.heap.size w' wr) (fun i _ => 65 - (intOf i).toNat)
          case atStart => exact ⟨1, by omega, by omega, rfl, bel3⟩
          case round =>
            clear bel3
            obtain ⟨k, hk1, hk2, rfl, bel3⟩ := hrel
            by_cases hk : k ≤ 64
            · go_wp2
              go_roundw
              case rel => exact ⟨k + 1, by omega, by omega, by go_num, bel3⟩
              case measure => simp [intOf]; omega
            · go_wp2_with fail
              refine (two_any _).mono ?_
              rintro e wz ⟨rfl, belz⟩
              go_wp2
              go_ret
              exact ⟨rfl, bel3.trans (belz.mono bel3.size)⟩
        | true =>
          have HF : Hid _ := HP.out (hb1.1 rfl)
          clear HP hb1
          go_wp2
          go_loopw [6] (fun i wr => ∃ k : Nat, 1 ≤ k ∧ k ≤ 65 ∧ i = .int .i64 k ∧ Below w'.heap.size w' wr) (fun i _ => 65 - (intOf i).toNat)
          case atStart => exact ⟨1, by omega, by omega, rfl, bel3⟩
          case round =>
            clear bel3
            obtain ⟨k, hk1, hk2, rfl, bel3⟩ := hrel
            by_cases hk : k ≤ 64
            · go_wp2_with fail
              refine (name_any (t.extract 0 k) (by rw [EZ.out k (by omega)]; omega) _).mono ?_
              rintro e w4 ⟨⟨b4, rfl, hb4⟩, bel4⟩
              have e4 : b4 = true := hb4.2 (HF.out k hk1 hk)
              subst e4
              have bel4 := bel3.trans (bel4.mono bel3.size)
              clear hb4 bel3
              go_wp2
              go_roundw
              case rel => exact ⟨k + 1, by omega, by omega, by go_num, bel4⟩
              case measure => simp [intOf]; omega
            · go_wp2_with fail
              refine (two_any _).mono ?_
              rintro e wz ⟨rfl, belz⟩
              go_wp2
              go_ret
              exact ⟨rfl, bel3.trans (belz.mono bel3.size)⟩
end Go.Proofs.Qxb6632267a
