/-
  PLAIN ARITHMETIC: numbers written in a base, least digit first ('vl') and greatest digit first ('pre'). No Go in sight.
-/
namespace Go.Proofs.Qxb6632220a

/-- The first L digits D, least first, as a number of base b. -/
def vl (b : Nat) (D : Nat → Nat) : Nat → Nat
  | 0 => 0
  | L + 1 => vl b D L + D L * b ^ L
/-- The first k digits S, greatest first, as a number of base b. -/
def pre (b : Nat) (S : Nat → Nat) : Nat → Nat
  | 0 => 0
  | k + 1 => b * pre b S k + S k
/-- D with v at place t. -/
def upd (D : Nat → Nat) (t v : Nat) : Nat → Nat := fun i => if i = t then v else D i

theorem upd_same (D : Nat → Nat) (t v : Nat) : upd D t v t = v := by simp [upd]
theorem upd_other (D : Nat → Nat) (t v i : Nat) (h : i ≠ t) : upd D t v i = D i := by simp [upd, h]

theorem vl_congr {b : Nat} {D E : Nat → Nat} {L : Nat} (h : ∀ i, i < L → D i = E i) : vl b D L = vl b E L := by
  induction L with
  | zero => rfl
  | succ L ih => simp only [vl]; rw [ih fun i hi => h i (by omega), h L (by omega)]

theorem pre_congr {b : Nat} {D E : Nat → Nat} {L : Nat} (h : ∀ i, i < L → D i = E i) : pre b D L = pre b E L := by
  induction L with
  | zero => rfl
  | succ L ih => simp only [pre]; rw [ih fun i hi => h i (by omega), h L (by omega)]

theorem vl_upd (b : Nat) (D : Nat → Nat) (t v L : Nat) (h : L ≤ t) : vl b (upd D t v) L = vl b D L :=
  vl_congr fun i hi => upd_other D t v i (by omega)

theorem vl_shift (b : Nat) (D : Nat → Nat) (L : Nat) : vl b D (L + 1) = D 0 + b * vl b (fun i => D (i + 1)) L := by
  induction L with
  | zero => simp [vl]
  | succ L ih =>
    have e : vl b D (L + 1 + 1) = vl b D (L + 1) + D (L + 1) * b ^ (L + 1) := rfl
    have e2 : vl b (fun i => D (i + 1)) (L + 1) = vl b (fun i => D (i + 1)) L + D (L + 1) * b ^ L := rfl
    rw [e, e2, ih, Nat.pow_succ, Nat.mul_add, Nat.add_assoc]
    congr 2
    rw [Nat.mul_comm (b ^ L) b, Nat.mul_left_comm]

theorem pre_vl (b : Nat) (S : Nat → Nat) (k : Nat) : pre b S k = vl b (fun i => S (k - 1 - i)) k := by
  induction k with
  | zero => rfl
  | succ k ih =>
    rw [vl_shift]
    show b * pre b S k + S k = _
    rw [ih, Nat.add_comm]
    simp only [Nat.add_sub_cancel, Nat.sub_zero]
    congr 2
    refine vl_congr fun i hi => ?_
    show S (k - 1 - i) = S (k - (i + 1))
    congr 1
    omega

theorem pre_lt {b : Nat} {S : Nat → Nat} {k : Nat} (h : ∀ i, i < k → S i < b) : pre b S k < b ^ k := by
  induction k with
  | zero => simp [pre]
  | succ k ih =>
    have h1 := ih fun i hi => h i (by omega)
    have h2 := h k (by omega)
    show b * pre b S k + S k < b ^ (k + 1)
    have h3 : b * (pre b S k + 1) ≤ b * b ^ k := Nat.mul_le_mul_left b h1
    rw [Nat.pow_succ, Nat.mul_comm (b ^ k) b]
    rw [Nat.mul_add, Nat.mul_one] at h3
    omega

theorem pre_top {b : Nat} {S : Nat → Nat} {k : Nat} (hk : 0 < k) (h : S 0 ≠ 0) : b ^ (k - 1) ≤ pre b S k := by
  induction k with
  | zero => omega
  | succ k ih =>
    show b ^ (k + 1 - 1) ≤ b * pre b S k + S k
    by_cases h0 : k = 0
    · subst h0; simp [pre]; omega
    · have h1 := ih (by omega)
      have h2 : b * b ^ (k - 1) ≤ b * pre b S k := Nat.mul_le_mul_left b h1
      have h3 : b ^ (k + 1 - 1) = b * b ^ (k - 1) := by
        rw [show k + 1 - 1 = (k - 1) + 1 by omega, Nat.pow_succ, Nat.mul_comm]
      omega

/-- The first place at which two numbers of one length part decides. -/
theorem pre_less {b : Nat} {S T : Nat → Nat} {n i : Nat} (hS : ∀ j, j < n → S j < b) (hi : i < n) (he : ∀ j, j < i → S j = T j) (hl : S i < T i) : pre b S n < pre b T n := by
  induction n with
  | zero => omega
  | succ n ih =>
    show b * pre b S n + S n < b * pre b T n + T n
    by_cases hin : i = n
    · subst hin
      rw [pre_congr he]
      omega
    · have h1 := ih (fun j hj => hS j (by omega)) (by omega)
      have h2 := hS n (by omega)
      have h3 : b * (pre b S n + 1) ≤ b * pre b T n := Nat.mul_le_mul_left b h1
      rw [Nat.mul_add, Nat.mul_one] at h3
      omega

theorem pre_inj {b : Nat} {S T : Nat → Nat} {n : Nat} (hS : ∀ j, j < n → S j < b) (hT : ∀ j, j < n → T j < b) (h : pre b S n = pre b T n) : ∀ i, i < n → S i = T i := by
  induction n with
  | zero => intro i hi; omega
  | succ n ih =>
    have h' : b * pre b S n + S n = b * pre b T n + T n := h
    have a := hS n (by omega)
    have c := hT n (by omega)
    have e1 : S n = T n := by
      have := congrArg (· % b) h'
      simpa [Nat.add_mod, Nat.mod_eq_of_lt a, Nat.mod_eq_of_lt c] using this
    have e2 : pre b S n = pre b T n := by
      rw [e1] at h'
      exact Nat.eq_of_mul_eq_mul_left (by omega) (Nat.add_right_cancel h')
    intro i hi
    by_cases hin : i = n
    · subst hin; exact e1
    · exact ih (fun j hj => hS j (by omega)) (fun j hj => hT j (by omega)) e2 i (by omega)

/-- One place of 'times m, plus what is carried', in base b. -/
theorem mul_step {b m t c d : Nat} {D D' : Nat → Nat} (h : vl b D' t + b ^ t * c = m * vl b D t + d) :
    vl b (upd D' t ((D t * m + c) % b)) (t + 1) + b ^ (t + 1) * ((D t * m + c) / b) = m * vl b D (t + 1) + d := by
  show vl b (upd D' t ((D t * m + c) % b)) t + upd D' t ((D t * m + c) % b) t * b ^ t + b ^ (t + 1) * ((D t * m + c) / b) = m * (vl b D t + D t * b ^ t) + d
  rw [vl_upd _ _ _ _ _ (Nat.le_refl _), upd_same]
  have hv : (D t * m + c) % b * b ^ t + b ^ (t + 1) * ((D t * m + c) / b) = b ^ t * (D t * m + c) := by
    have := Nat.mod_add_div (D t * m + c) b
    generalize (D t * m + c) = v at *
    rw [Nat.pow_succ, Nat.mul_assoc, Nat.mul_comm (v % b) (b ^ t), ← Nat.mul_add, this]
  have h2 : b ^ t * (D t * m + c) = m * (D t * b ^ t) + b ^ t * c := by
    rw [Nat.mul_add, Nat.mul_comm (b ^ t) (D t * m), Nat.mul_comm (D t) m, Nat.mul_assoc]
  rw [Nat.mul_add]
  omega

/-- One digit more on top. -/
theorem push_step {b L c N : Nat} {D : Nat → Nat} (h : vl b D L + b ^ L * c = N) : vl b (upd D L (c % b)) (L + 1) + b ^ (L + 1) * (c / b) = N := by
  show vl b (upd D L (c % b)) L + upd D L (c % b) L * b ^ L + b ^ (L + 1) * (c / b) = N
  rw [vl_upd _ _ _ _ _ (Nat.le_refl _), upd_same]
  have hv : c % b * b ^ L + b ^ (L + 1) * (c / b) = b ^ L * c := by
    have := Nat.mod_add_div c b
    rw [Nat.pow_succ, Nat.mul_assoc, Nat.mul_comm (c % b) (b ^ L), ← Nat.mul_add, this]
  omega

/-- z zeros lead, and no more. -/
def Lead (A : Nat → Nat) (n z : Nat) : Prop := z ≤ n ∧ (∀ i, i < z → A i = 0) ∧ (z = n ∨ A z ≠ 0)

theorem Lead.uniq {A : Nat → Nat} {n y z : Nat} (h : Lead A n y) (k : Lead A n z) : y = z := by
  obtain ⟨h1, h2, h3⟩ := h
  obtain ⟨k1, k2, k3⟩ := k
  rcases Nat.lt_trichotomy y z with q | q | q
  · rcases h3 with e | e
    · omega
    · exact absurd (k2 y q) e
  · exact q
  · rcases k3 with e | e
    · omega
    · exact absurd (h2 z q) e

theorem pre_zero {b : Nat} {A : Nat → Nat} {z : Nat} (h : ∀ i, i < z → A i = 0) : pre b A z = 0 := by
  induction z with
  | zero => rfl
  | succ z ih =>
    show b * pre b A z + A z = 0
    rw [ih fun i hi => h i (by omega), h z (by omega)]
    omega

/-- Leading zeros do not count. -/
theorem pre_lead {b : Nat} {A : Nat → Nat} {z : Nat} (h : ∀ i, i < z → A i = 0) (n : Nat) : pre b A (z + n) = pre b (fun i => A (z + i)) n := by
  induction n with
  | zero => exact pre_zero h
  | succ n ih =>
    show b * pre b A (z + n) + A (z + n) = b * pre b (fun i => A (z + i)) n + A (z + n)
    rw [ih]

theorem pow_bound : ∀ z, z < 33 → 256 ^ (32 - z) ≤ 58 ^ (44 - z) := by decide

/-- The text is at most 44 bytes long. -/
theorem len_bound {A S : Nat → Nat} {z L : Nat} (hz : Lead A 32 z) (hA : ∀ i, i < 32 → A i < 256) (hS : L = 0 ∨ S 0 ≠ 0) (he : pre 58 S L = pre 256 A 32) : z + L ≤ 44 := by
  obtain ⟨h1, h2, _⟩ := hz
  rcases Nat.eq_zero_or_pos L with h0 | h0
  · omega
  have hS := hS.resolve_left (by omega)
  have a1 := pre_top (b := 58) h0 hS
  have a2 : pre 256 A 32 < 256 ^ (32 - z) := by
    have e : pre 256 A 32 = pre 256 (fun i => A (z + i)) (32 - z) := by
      have := pre_lead (b := 256) h2 (32 - z)
      rwa [show z + (32 - z) = 32 by omega] at this
    rw [e]
    exact pre_lt fun i hi => hA (z + i) (by omega)
  have a3 := pow_bound z (by omega)
  have a4 : 58 ^ (L - 1) < 58 ^ (44 - z) := by omega
  have a5 := (Nat.pow_lt_pow_iff_right (by decide : 1 < 58)).1 a4
  omega

/-- Least first to greatest first. -/
theorem turn (b : Nat) (D : Nat → Nat) (L : Nat) : pre b (fun i => D (L - 1 - i)) L = vl b D L := by
  rw [pre_vl]
  refine vl_congr fun i hi => ?_
  show D (L - 1 - (L - 1 - i)) = D i
  congr 1
  omega

/-- How two numbers compare. -/
def cmpN (x y : Nat) : Int := if x < y then -1 else if y < x then 1 else 0
theorem cmpN_lt {x y : Nat} (h : x < y) : cmpN x y = -1 := by unfold cmpN; rw [if_pos h]
theorem cmpN_gt {x y : Nat} (h : y < x) : cmpN x y = 1 := by unfold cmpN; rw [if_neg (by omega), if_pos h]
theorem cmpN_eq {x y : Nat} (h : x = y) : cmpN x y = 0 := by unfold cmpN; rw [if_neg (by omega), if_neg (by omega)]

/-- The shorter number, its greatest digit not nought, is the smaller. -/
theorem short_less {b : Nat} {S T : Nat → Nat} {L M : Nat} (hb : 0 < b) (hS : ∀ i, i < L → S i < b) (hT : T 0 ≠ 0) (h : L < M) : pre b S L < pre b T M := by
  have a1 := pre_lt hS
  have a2 := pre_top (b := b) (k := M) (by omega) hT
  have a3 : b ^ L ≤ b ^ (M - 1) := Nat.pow_le_pow_right hb (by omega)
  omega

/-- The digits' bytes. -/
def alphL : List Nat := [49, 50, 51, 52, 53, 54, 55, 56, 57, 65, 66, 67, 68, 69, 70, 71, 72, 74, 75, 76, 77, 78, 80, 81, 82, 83, 84, 85, 86, 87, 88, 89, 90, 97, 98, 99, 100, 101, 102, 103, 104, 105, 106, 107, 109, 110, 111, 112, 113, 114, 115, 116, 117, 118, 119, 120, 121, 122]
def alph (d : Nat) : Nat := alphL.getD d 0
theorem alph_lt : ∀ d, d < 58 → alph d < 256 := by decide
theorem alph_mono : ∀ d, d < 58 → ∀ e, e < 58 → d < e → alph d < alph e := by decide
theorem alph_one : ∀ d, d < 58 → d ≠ 0 → alph d ≠ 49 := by decide
end Go.Proofs.Qxb6632220a
