import Derived.Test.Qxb6632267aRows
import Derived.WalkKit
import Derived.ProofKit
import Derived.OpenShut
import Derived.ShutString
import Derived.ChangeOld
import Derived.Below
import Derived.Handy
import Derived.WalkSpells
import Derived.WalkLawsBesides
import Derived.BigQuiet
import Derived.Deep.QuietTactic
import Derived.Deep.OwnRows
import Derived.Laws.RangeAny
import Derived.Laws.IdiomStrings
namespace Go.Proofs.Qxb6632267a
open Go.ChangeShapes Go.WideShapes Go.ChangeAt Go.RowKit

/-- A byte that a name may hold. -/
def okc (n : Nat) : Bool := (decide (97 ≤ n) && decide (n ≤ 122)) || (decide (65 ≤ n) && decide (n ≤ 90)) || (decide (48 ≤ n) && decide (n ≤ 57)) || n == 46 || n == 95 || n == 45 || n == 64
theorem okc_cases (n : Nat) : (okc n = true ∧ ((97 ≤ n ∧ n ≤ 122) ∨ (65 ≤ n ∧ n ≤ 90) ∨ (48 ≤ n ∧ n ≤ 57) ∨ n = 46 ∨ n = 95 ∨ n = 45 ∨ n = 64)) ∨
    (okc n = false ∧ (n ≤ 44 ∨ n = 47 ∨ (58 ≤ n ∧ n ≤ 63) ∨ (91 ≤ n ∧ n ≤ 94) ∨ n = 96 ∨ 123 ≤ n)) := by
  cases h : okc n with
  | true => left; refine ⟨rfl, ?_⟩; simp [okc] at h; omega
  | false => right; refine ⟨rfl, ?_⟩; simp [okc] at h; omega

/-- s is a name. -/
def VN (s : ByteArray) : Prop := 1 ≤ s.size ∧ s.size ≤ 64 ∧ ∀ i (h : i < s.size), okc (s[i]'h).toNat = true

/-- A bool that says p. -/
def Tells (p : Prop) (e : Ending) : Prop := ∃ b, e = .returned (.bool b) ∧ (b = true ↔ p)

theorem tells_no {p : Prop} (h : ¬ p) : Tells p (.returned (.bool false)) := ⟨false, rfl, ⟨fun h => (by cases h), fun q => absurd q h⟩⟩
theorem tells_yes {p : Prop} (h : p) : Tells p (.returned (.bool true)) := ⟨true, rfl, ⟨fun _ => h, fun _ => rfl⟩⟩

theorem iter_below (w : World) (s : ByteArray) (pos : Nat) : Below w.heap.size w (w.iter s pos) := (Below.refl _ _).alloc (Nat.le_refl _) _

theorem toList_length (s : ByteArray) : s.toList.length = s.size := by
  rw [ByteArray.toList_eq, Array.length_toList]
  rfl
theorem isEmpty_size (s : ByteArray) : s.toList.isEmpty = decide (s.size = 0) := by
  rw [Bool.eq_iff_iff]
  simp only [List.isEmpty_iff, decide_eq_true_eq]
  rw [← List.length_eq_zero_iff, toList_length]

set_option maxHeartbeats 2000000 in
theorem name_any (s : ByteArray) (hs : s.size ≤ 2097152) (w : World) :
    Calls Try.prog 6 #[.string s] w fun e w' => Tells (VN s) e ∧ Below w.heap.size w w' := by
  by_cases h0 : s.size = 0
  · have hb : s.toList.isEmpty = true := by rw [isEmpty_size]; exact decide_eq_true h0
    have H0 : Hid _ := h0
    clear h0
    go_enter Try.func6, Try.ntmps6
    go_wp2
    go_ret
    exact ⟨tells_no fun h => by have := h.1; have := H0.out; omega, Below.refl _ _⟩
  have hb : s.toList.isEmpty = false := by rw [isEmpty_size]; exact decide_eq_false h0
  by_cases h1 : 64 < s.size
  · go_enter Try.func6, Try.ntmps6
    go_wp2
    go_ret
    exact ⟨tells_no fun h => by have := h.2.1; omega, Below.refl _ _⟩
  have hd64 : decide ((64 : Int) < (s.size : Int)) = false := decide_eq_false (by omega)
  go_enter Try.func6, Try.ntmps6
  go_wp2
  go_loopw [] (fun w' => ∃ pos : Nat, pos ≤ s.size ∧ w' = w.iter s pos ∧ ∀ i (h : i < s.size), i < pos → okc (s[i]'h).toNat = true) (fun w' => s.size - w'.iterPos w.heap.size)
  case atStart => exact ⟨0, by omega, rfl, fun i _ hi => absurd hi (by omega)⟩
  case round =>
    obtain ⟨pos, hp, rfl, hok⟩ := hrel
    have HO : Hid (∀ i (h : i < s.size), i < pos → okc (s[i]'h).toNat = true) := hok
    clear hok
    by_cases hlt : pos < s.size
    · have HN : Hid (okc (s[pos]'hlt).toNat = false → ¬ VN s) := fun hk h => by
        have := h.2.2 pos hlt
        rw [hk] at this
        cases this
      have HY : Hid (okc (s[pos]'hlt).toNat = true → ∀ i (h : i < s.size), i < pos + 1 → okc (s[i]'h).toNat = true) := fun hk i h hi => by
        by_cases e : i = pos
        · subst e; exact hk
        · exact HO.out i h (by omega)
      by_cases ha : (s[pos]'hlt).toNat < 128
      · have hnx : ∀ ty, (Instr.next (.pointer (some ⟨w.heap.size, 0, none⟩)) true ty).run Try.prog (w.iter s pos) = _ := fun ty => run_next_ascii w s pos ty hlt ha
        have hcs := okc_cases (s[pos]'hlt).toNat
        generalize (s[pos]'hlt).toNat = c at *
        rcases hcs with ⟨hk, hc⟩ | ⟨hk, hc⟩
        · have HK : Hid _ := hk
          clear hk
          rcases hc with ⟨c1, c2⟩ | ⟨c1, c2⟩ | ⟨c1, c2⟩ | c1 | c1 | c1 | c1
          all_goals
            go_wp2
            go_roundw
            case rel =>
              exact ⟨pos + 1, by omega, rfl, HY.out HK.out⟩
            case measure => simp; omega
        · have HK : Hid _ := hk
          clear hk
          have n1 : ((c : Int) != 46) = true := by rw [bne_iff_ne]; omega
          have n2 : ((c : Int) != 95) = true := by rw [bne_iff_ne]; omega
          have n3 : ((c : Int) != 45) = true := by rw [bne_iff_ne]; omega
          have n4 : ((c : Int) != 64) = true := by rw [bne_iff_ne]; omega
          rcases hc with c1 | c1 | ⟨c1, c2⟩ | ⟨c1, c2⟩ | c1 | c1
          · go_wp2
            go_ret
            exact ⟨tells_no (HN.out HK.out), iter_below _ _ _⟩
          · go_wp2
            go_ret
            exact ⟨tells_no (HN.out HK.out), iter_below _ _ _⟩
          · have f57 : decide ((c : Int) ≤ 57) = false := decide_eq_false (by omega)
            go_wp2
            go_ret
            exact ⟨tells_no (HN.out HK.out), iter_below _ _ _⟩
          · have f57 : decide ((c : Int) ≤ 57) = false := decide_eq_false (by omega)
            have f90 : decide ((c : Int) ≤ 90) = false := decide_eq_false (by omega)
            go_wp2
            go_ret
            exact ⟨tells_no (HN.out HK.out), iter_below _ _ _⟩
          · go_wp2
            go_ret
            exact ⟨tells_no (HN.out HK.out), iter_below _ _ _⟩
          · have f57 : decide ((c : Int) ≤ 57) = false := decide_eq_false (by omega)
            have f90 : decide ((c : Int) ≤ 90) = false := decide_eq_false (by omega)
            have f122 : decide ((c : Int) ≤ 122) = false := decide_eq_false (by omega)
            go_wp2
            go_ret
            exact ⟨tells_no (HN.out HK.out), iter_below _ _ _⟩
      · have hnx : ∀ ty, (Instr.next (.pointer (some ⟨w.heap.size, 0, none⟩)) true ty).run Try.prog (w.iter s pos) = _ := fun ty => run_next_any w s pos ty hlt
        obtain ⟨hh1, hh2⟩ := decode_high s pos hlt (by omega)
        have HK : Hid (okc (s[pos]'hlt).toNat = false) := by
          rcases okc_cases (s[pos]'hlt).toNat with ⟨hk, hc⟩ | ⟨hk, hc⟩
          · omega
          · exact hk
        generalize (Utf8.decode s pos).1 = r at *
        generalize (Utf8.decode s pos).2 = wd at *
        have n1 : ((r : Int) != 46) = true := by rw [bne_iff_ne]; omega
        have n2 : ((r : Int) != 95) = true := by rw [bne_iff_ne]; omega
        have n3 : ((r : Int) != 45) = true := by rw [bne_iff_ne]; omega
        have n4 : ((r : Int) != 64) = true := by rw [bne_iff_ne]; omega
        have f57 : decide ((r : Int) ≤ 57) = false := decide_eq_false (by omega)
        have f90 : decide ((r : Int) ≤ 90) = false := decide_eq_false (by omega)
        have f122 : decide ((r : Int) ≤ 122) = false := decide_eq_false (by omega)
        go_wp2
        go_ret
        exact ⟨tells_no (HN.out HK.out), iter_below _ _ _⟩
    · have hnx : ∀ ty, (Instr.next (.pointer (some ⟨w.heap.size, 0, none⟩)) true ty).run Try.prog (w.iter s pos) = _ := fun ty => run_next_end w s pos ty hlt
      go_wp2
      go_ret
      exact ⟨tells_yes ⟨by omega, by omega, fun i h => HO.out i h (by omega)⟩, iter_below _ _ _⟩
end Go.Proofs.Qxb6632267a
