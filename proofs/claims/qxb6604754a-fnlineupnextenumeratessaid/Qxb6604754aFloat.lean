import Ieee.Arith
/-
  Floating point, plain: the order of words is the order of integers; rounding is monotone; so is a sum in its second summand.
-/
namespace Go.Proofs.Qxb6604754a
open Ieee

variable (f : Format)

/-- what a rung stands for, in units of the least place -/
def V (r : Nat) : Nat := if r < f.binade then r else (f.binade + r % f.binade) * 2 ^ (r / f.binade - 1)
theorem binade_pos : 0 < f.binade := Nat.two_pow_pos _
theorem V_step (r : Nat) : V f r < V f (r + 1) := by
  have hb := binade_pos f
  unfold V
  by_cases h1 : r + 1 < f.binade
  · rw [if_pos (by omega), if_pos h1]; omega
  · by_cases h2 : r < f.binade
    · have e : r + 1 = f.binade := by omega
      rw [if_pos h2, if_neg h1, e]
      simp [Nat.div_self hb]
      omega
    · rw [if_neg h2, if_neg h1]
      have hq : 1 ≤ r / f.binade := (Nat.le_div_iff_mul_le hb).2 (by omega)
      have hd := Nat.div_add_mod r f.binade
      have hm := Nat.mod_lt r hb
      by_cases h3 : r % f.binade + 1 < f.binade
      · have e : r + 1 = f.binade * (r / f.binade) + (r % f.binade + 1) := by omega
        have e1 : (r + 1) / f.binade = r / f.binade := by
          rw [e, Nat.mul_add_div hb, Nat.div_eq_of_lt h3]; simp
        have e2 : (r + 1) % f.binade = r % f.binade + 1 := by
          rw [e, Nat.mul_add_mod, Nat.mod_eq_of_lt h3]
        rw [e1, e2]
        exact Nat.mul_lt_mul_of_pos_right (by omega) (Nat.two_pow_pos _)
      · have e : r + 1 = f.binade * (r / f.binade + 1) := by rw [Nat.mul_add]; omega
        have e1 : (r + 1) / f.binade = r / f.binade + 1 := by rw [e, Nat.mul_div_cancel_left _ hb]
        have e2 : (r + 1) % f.binade = 0 := by rw [e]; exact Nat.mul_mod_right _ _
        rw [e1, e2]
        obtain ⟨q, hq'⟩ : ∃ q, r / f.binade = q + 1 := ⟨r / f.binade - 1, by omega⟩
        rw [hq']
        simp only [Nat.add_sub_cancel, Nat.add_zero]
        rw [Nat.pow_succ]
        have : f.binade + r % f.binade < f.binade * 2 := by omega
        calc (f.binade + r % f.binade) * 2 ^ q < f.binade * 2 * 2 ^ q := Nat.mul_lt_mul_of_pos_right this (Nat.two_pow_pos _)
          _ = f.binade * (2 ^ q * 2) := by rw [Nat.mul_assoc, Nat.mul_comm 2]
theorem V_lt {r s : Nat} (h : r < s) : V f r < V f s := by
  induction s with
  | zero => omega
  | succ s ih =>
    by_cases e : r = s
    · subst e; exact V_step f r
    · exact Nat.lt_trans (ih (by omega)) (V_step f s)
theorem V_le {r s : Nat} (h : r ≤ s) : V f r ≤ V f s := by
  by_cases e : r = s
  · subst e; exact Nat.le_refl _
  · exact Nat.le_of_lt (V_lt f (by omega))

def rung (w : Nat) : Nat := w % f.signWeight
def negW (w : Nat) : Bool := w / f.signWeight % 2 == 1
/-- not a NaN -/
def nn (w : Nat) : Prop := rung f w ≤ f.infRung
def ev (w : Nat) : Int := if negW f w then -(V f (rung f w) : Int) else (V f (rung f w) : Int)

theorem signed_shift (s : Bool) (m a k : Nat) : signed s m (a + k) = signed s m a * (2 ^ k : Nat) := by
  unfold signed
  simp only [Nat.shiftLeft_eq, Nat.pow_add]
  cases s
  · simp; rw [Int.mul_assoc]
  · simp; rw [Int.neg_mul, Int.mul_assoc]

/-- a finite datum in units of the least place -/
def dv (s : Bool) (m : Nat) (i : Int) : Int := signed s m (i - f.leastPlace).toNat

theorem read_fin (w : Nat) (h : rung f w < f.infRung) : ∃ m i, f.read w = .number (negW f w) m i ∧ f.leastPlace ≤ i ∧ dv f (negW f w) m i = ev f w := by
  unfold Format.read
  by_cases h1 : rung f w < f.binade
  · refine ⟨rung f w, f.leastPlace, ?_, by omega, ?_⟩
    · show (if rung f w < f.binade then _ else _) = _
      rw [if_pos h1]; rfl
    · unfold dv ev V signed
      rw [if_pos h1]
      simp
  · refine ⟨f.binade + rung f w % f.binade, f.leastPlace + (rung f w / f.binade - 1 : Nat), ?_, by omega, ?_⟩
    · show (if rung f w < f.binade then _ else if rung f w < f.infRung then _ else _) = _
      rw [if_neg h1, if_pos h]; rfl
    · unfold dv ev V signed
      rw [if_neg h1]
      have e : (f.leastPlace + ((rung f w / f.binade - 1 : Nat) : Int) - f.leastPlace).toNat = rung f w / f.binade - 1 := by omega
      rw [e, Nat.shiftLeft_eq]
theorem binade_le (he : 1 ≤ f.exponentBits) : f.binade ≤ f.infRung := by
  have h2 : 2 ^ 1 ≤ 2 ^ f.exponentBits := Nat.pow_le_pow_right (by omega) he
  exact Nat.le_mul_of_pos_left _ (by omega)
theorem inf_lt : f.infRung < f.signWeight := by
  have h1 : f.signWeight = 2 ^ f.exponentBits * f.binade := by unfold Format.signWeight Format.binade; rw [Nat.pow_add]
  have h2 := Nat.two_pow_pos f.exponentBits
  rw [h1]
  exact Nat.mul_lt_mul_of_pos_right (by omega) (binade_pos f)
theorem read_inf (he : 1 ≤ f.exponentBits) (w : Nat) (h : rung f w = f.infRung) : f.read w = .infinity (negW f w) := by
  have hb := binade_le f he
  unfold Format.read
  show (if rung f w < f.binade then _ else if rung f w < f.infRung then _ else if rung f w = f.infRung then _ else _) = _
  rw [if_neg (by omega), if_neg (by omega), if_pos h]; rfl
theorem read_nan (he : 1 ≤ f.exponentBits) (w : Nat) (h : ¬ nn f w) : ∃ s t, f.read w = .nan s t := by
  have hb := binade_le f he
  unfold nn at h
  unfold Format.read
  refine ⟨negW f w, rung f w - f.infRung, ?_⟩
  show (if rung f w < f.binade then _ else if rung f w < f.infRung then _ else if rung f w = f.infRung then _ else _) = _
  rw [if_neg (by omega), if_neg (by omega), if_neg (by omega)]; rfl
theorem read_cases (he : 1 ≤ f.exponentBits) (w : Nat) :
    (rung f w < f.infRung ∧ ∃ m i, f.read w = .number (negW f w) m i ∧ f.leastPlace ≤ i ∧ dv f (negW f w) m i = ev f w) ∨ (rung f w = f.infRung ∧ f.read w = .infinity (negW f w)) ∨ (¬ nn f w ∧ ∃ s t, f.read w = .nan s t) := by
  rcases Nat.lt_trichotomy (rung f w) f.infRung with h | h | h
  · exact .inl ⟨h, read_fin f w h⟩
  · exact .inr (.inl ⟨h, read_inf f he w h⟩)
  · have hn : ¬ nn f w := by unfold nn; omega
    exact .inr (.inr ⟨hn, read_nan f he w hn⟩)

theorem scale_cmp (x y : Int) (k : Nat) : compare (x * (2 ^ k : Nat)) (y * (2 ^ k : Nat)) = compare x y := by
  have hp : (0 : Int) < (2 ^ k : Nat) := by exact_mod_cast Nat.two_pow_pos k
  rcases Int.lt_trichotomy x y with h | h | h
  · rw [Int.compare_eq_lt.2 h, Int.compare_eq_lt.2 (Int.mul_lt_mul_of_pos_right h hp)]
  · subst h; rw [Int.compare_eq_eq.2 rfl, Int.compare_eq_eq.2 rfl]
  · rw [Int.compare_eq_gt.2 h, Int.compare_eq_gt.2 (Int.mul_lt_mul_of_pos_right h hp)]
theorem fin_bound (w : Nat) (h : rung f w < f.infRung) : -(V f f.infRung : Int) < ev f w ∧ ev f w < V f f.infRung := by
  have := V_lt f h
  unfold ev
  split <;> omega
theorem inf_val (w : Nat) (h : rung f w = f.infRung) : ev f w = if negW f w then -(V f f.infRung : Int) else (V f f.infRung : Int) := by
  unfold ev; rw [h]
theorem V_inf_pos (he : 1 ≤ f.exponentBits) : 0 < V f f.infRung := by
  have := V_lt f (show 0 < f.infRung from Nat.lt_of_lt_of_le (binade_pos f) (binade_le f he))
  omega

/-- the order of words is the order of their values -/
theorem order_ev (he : 1 ≤ f.exponentBits) (a b : Nat) (ha : nn f a) (hb : nn f b) : f.order a b = some (compare (ev f a) (ev f b)) := by
  have hv := V_inf_pos f he
  unfold Format.order
  rcases read_cases f he a with ⟨h1, m, i, e1, p1, q1⟩ | ⟨h1, e1⟩ | ⟨h1, _⟩
  · rcases read_cases f he b with ⟨h2, n, j, e2, p2, q2⟩ | ⟨h2, e2⟩ | ⟨h2, _⟩
    · rw [e1, e2]
      show some (compare (signed (negW f a) m (i - min i j).toNat) (signed (negW f b) n (j - min i j).toNat)) = _
      have s1 : (i - f.leastPlace).toNat = (i - min i j).toNat + (min i j - f.leastPlace).toNat := by omega
      have s2 : (j - f.leastPlace).toNat = (j - min i j).toNat + (min i j - f.leastPlace).toNat := by omega
      rw [← q1, ← q2]
      unfold dv
      rw [s1, s2, signed_shift, signed_shift, scale_cmp]
    · rw [e1, e2]
      have fb := fin_bound f a h1
      have iv := inf_val f b h2
      show some (if negW f b then Ordering.gt else .lt) = _
      cases hs : negW f b with
      | true => rw [hs] at iv; simp at iv; simp; exact (Int.compare_eq_gt.2 (by omega)).symm
      | false => rw [hs] at iv; simp at iv; simp; exact (Int.compare_eq_lt.2 (by omega)).symm
    · exact absurd hb h2
  · rcases read_cases f he b with ⟨h2, n, j, e2, p2, q2⟩ | ⟨h2, e2⟩ | ⟨h2, _⟩
    · rw [e1, e2]
      have fb := fin_bound f b h2
      have iv := inf_val f a h1
      show some (if negW f a then Ordering.lt else .gt) = _
      cases hs : negW f a with
      | true => rw [hs] at iv; simp at iv; simp; exact (Int.compare_eq_lt.2 (by omega)).symm
      | false => rw [hs] at iv; simp at iv; simp; exact (Int.compare_eq_gt.2 (by omega)).symm
    · rw [e1, e2]
      have iv := inf_val f a h1
      have jv := inf_val f b h2
      show some (compare (negW f b).toNat (negW f a).toNat) = _
      cases hs : negW f a <;> cases ht : negW f b <;> rw [hs] at iv <;> rw [ht] at jv <;> simp at iv jv
      · rw [Int.compare_eq_eq.2 (by omega)]; rfl
      · rw [Int.compare_eq_gt.2 (by omega)]; rfl
      · rw [Int.compare_eq_lt.2 (by omega)]; rfl
      · rw [Int.compare_eq_eq.2 (by omega)]; rfl
    · exact absurd hb h2
  · exact absurd ha h1
theorem order_nan (he : 1 ≤ f.exponentBits) (a b : Nat) (h : ¬ nn f a ∨ ¬ nn f b) : f.order a b = none := by
  unfold Format.order
  rcases h with h | h
  · obtain ⟨s, t, e⟩ := read_nan f he a h
    rw [e]; rfl
  · obtain ⟨s, t, e⟩ := read_nan f he b h
    rw [e]; cases f.read a <;> rfl

def fle (a b : Nat) : Bool := f.order a b == some .lt || f.order a b == some .eq
def flt (a b : Nat) : Bool := f.order a b == some .lt
def fge (a b : Nat) : Bool := f.order a b == some .gt || f.order a b == some .eq
theorem fle_iff (he : 1 ≤ f.exponentBits) (a b : Nat) : fle f a b = true ↔ nn f a ∧ nn f b ∧ ev f a ≤ ev f b := by
  unfold fle
  by_cases ha : nn f a
  · by_cases hb : nn f b
    · rw [order_ev f he a b ha hb]
      rcases Int.lt_trichotomy (ev f a) (ev f b) with h | h | h
      · rw [Int.compare_eq_lt.2 h]; simp [ha, hb]; omega
      · rw [Int.compare_eq_eq.2 h]; simp [ha, hb]; omega
      · rw [Int.compare_eq_gt.2 h]; simp [ha, hb]; omega
    · rw [order_nan f he a b (.inr hb)]; simp [hb]
  · rw [order_nan f he a b (.inl ha)]; simp [ha]
theorem flt_iff (he : 1 ≤ f.exponentBits) (a b : Nat) : flt f a b = true ↔ nn f a ∧ nn f b ∧ ev f a < ev f b := by
  unfold flt
  by_cases ha : nn f a
  · by_cases hb : nn f b
    · rw [order_ev f he a b ha hb]
      rcases Int.lt_trichotomy (ev f a) (ev f b) with h | h | h
      · rw [Int.compare_eq_lt.2 h]; simp [ha, hb]; omega
      · rw [Int.compare_eq_eq.2 h]; simp [ha, hb]; omega
      · rw [Int.compare_eq_gt.2 h]; simp [ha, hb]; omega
    · rw [order_nan f he a b (.inr hb)]; simp [hb]
  · rw [order_nan f he a b (.inl ha)]; simp [ha]
theorem fge_iff (he : 1 ≤ f.exponentBits) (a b : Nat) : fge f a b = true ↔ nn f a ∧ nn f b ∧ ev f b ≤ ev f a := by
  unfold fge
  by_cases ha : nn f a
  · by_cases hb : nn f b
    · rw [order_ev f he a b ha hb]
      rcases Int.lt_trichotomy (ev f a) (ev f b) with h | h | h
      · rw [Int.compare_eq_lt.2 h]; simp [ha, hb]; omega
      · rw [Int.compare_eq_eq.2 h]; simp [ha, hb]; omega
      · rw [Int.compare_eq_gt.2 h]; simp [ha, hb]; omega
    · rw [order_nan f he a b (.inr hb)]; simp [hb]
  · rw [order_nan f he a b (.inl ha)]; simp [ha]

/-! ### rounding -/
/-- N / 2^d to the nearest, ties to even -/
def rne (N d : Nat) : Nat := N / 2 ^ d + (decide (2 ^ d < 2 * (N % 2 ^ d)) || (2 ^ d == 2 * (N % 2 ^ d) && N / 2 ^ d % 2 == 1)).toNat
theorem rne_mono (N M d : Nat) (h : N ≤ M) : rne N d ≤ rne M d := by
  have hp := Nat.two_pow_pos d
  have hq : N / 2 ^ d ≤ M / 2 ^ d := Nat.div_le_div_right h
  unfold rne
  by_cases e : N / 2 ^ d = M / 2 ^ d
  · have h1 := Nat.div_add_mod N (2 ^ d)
    have h2 := Nat.div_add_mod M (2 ^ d)
    rw [e] at h1
    have hm : N % 2 ^ d ≤ M % 2 ^ d := by omega
    rw [e]
    apply Nat.add_le_add_left
    by_cases c1 : 2 ^ d < 2 * (N % 2 ^ d)
    · have c2 : 2 ^ d < 2 * (M % 2 ^ d) := by omega
      simp [c1, c2]
    · by_cases c3 : 2 ^ d = 2 * (N % 2 ^ d)
      · by_cases c2 : 2 ^ d < 2 * (M % 2 ^ d)
        · have : decide (2 ^ d < 2 * (M % 2 ^ d)) = true := by simpa using c2
          rw [this]
          simp
          exact Bool.toNat_le _
        · have c4 : M % 2 ^ d = N % 2 ^ d := by omega
          rw [c4]
          exact Nat.le_refl _
      · have : (decide (2 ^ d < 2 * (N % 2 ^ d)) || (2 ^ d == 2 * (N % 2 ^ d) && M / 2 ^ d % 2 == 1)) = false := by simp [c1, c3]
        rw [this]
        simp
  · have h1 : ∀ b : Bool, b.toNat ≤ 1 := Bool.toNat_le
    have := h1 (decide (2 ^ d < 2 * (N % 2 ^ d)) || (2 ^ d == 2 * (N % 2 ^ d) && N / 2 ^ d % 2 == 1))
    omega
/-- the rung nearest to N units -/
def R (N : Nat) : Nat := if N.log2 ≤ f.fractionBits then N else (N.log2 - f.fractionBits) * f.binade + rne N (N.log2 - f.fractionBits)
theorem R_big (N : Nat) (h : f.fractionBits < N.log2) : (N.log2 - f.fractionBits) * f.binade + f.binade ≤ R f N ∧ R f N ≤ (N.log2 - f.fractionBits) * f.binade + 2 * f.binade := by
  have hN : N ≠ 0 := by rintro rfl; simp at h
  have h1 := Nat.log2_self_le hN
  have h2 := @Nat.lt_log2_self N
  unfold R
  rw [if_neg (by omega)]
  have e : N.log2 = f.fractionBits + (N.log2 - f.fractionBits) := by omega
  have hp := Nat.two_pow_pos (N.log2 - f.fractionBits)
  have l1 : f.binade ≤ N / 2 ^ (N.log2 - f.fractionBits) := by
    rw [Nat.le_div_iff_mul_le hp]
    unfold Format.binade
    rw [← Nat.pow_add, ← e]; exact h1
  have l2 : N / 2 ^ (N.log2 - f.fractionBits) < 2 * f.binade := by
    rw [Nat.div_lt_iff_lt_mul hp]
    have : 2 * f.binade * 2 ^ (N.log2 - f.fractionBits) = 2 ^ (N.log2 + 1) := by
      unfold Format.binade
      rw [Nat.mul_assoc, ← Nat.pow_add, ← e, Nat.pow_succ, Nat.mul_comm]
    rw [this]; exact h2
  have hb : ∀ b : Bool, b.toNat ≤ 1 := Bool.toNat_le
  have := hb (decide (2 ^ (N.log2 - f.fractionBits) < 2 * (N % 2 ^ (N.log2 - f.fractionBits))) || (2 ^ (N.log2 - f.fractionBits) == 2 * (N % 2 ^ (N.log2 - f.fractionBits)) && N / 2 ^ (N.log2 - f.fractionBits) % 2 == 1))
  unfold rne
  omega
theorem log2_mono {N M : Nat} (h : N ≤ M) : N.log2 ≤ M.log2 := by
  by_cases hN : N = 0
  · subst hN; simp
  · have h1 := Nat.log2_self_le hN
    have h2 := @Nat.lt_log2_self M
    refine Nat.le_of_not_lt fun hc => ?_
    have : 2 ^ (M.log2 + 1) ≤ 2 ^ N.log2 := Nat.pow_le_pow_right (by omega) hc
    omega
theorem R_mono {N M : Nat} (h : N ≤ M) : R f N ≤ R f M := by
  have hl := log2_mono h
  have hb := binade_pos f
  by_cases h1 : M.log2 ≤ f.fractionBits
  · unfold R; rw [if_pos (by omega), if_pos h1]; exact h
  · have b2 := R_big f M (by omega)
    by_cases h2 : N.log2 ≤ f.fractionBits
    · have e : R f N = N := by unfold R; rw [if_pos h2]
      have h3 := @Nat.lt_log2_self N
      have h4 : 2 ^ (N.log2 + 1) ≤ 2 ^ (f.fractionBits + 1) := Nat.pow_le_pow_right (by omega) (by omega)
      have h5 : 2 ^ (f.fractionBits + 1) = 2 * f.binade := by unfold Format.binade; rw [Nat.pow_succ, Nat.mul_comm]
      have h6 : 1 * f.binade ≤ (M.log2 - f.fractionBits) * f.binade := Nat.mul_le_mul_right _ (by omega)
      omega
    · by_cases h3 : N.log2 = M.log2
      · unfold R
        rw [if_neg h2, if_neg h1, h3]
        exact Nat.add_le_add_left (rne_mono N M _ h) _
      · have b1 := R_big f N (by omega)
        have h6 : (N.log2 - f.fractionBits + 1) * f.binade ≤ (M.log2 - f.fractionBits) * f.binade := Nat.mul_le_mul_right _ (by omega)
        rw [Nat.add_mul] at h6
        omega

end Go.Proofs.Qxb6604754a
