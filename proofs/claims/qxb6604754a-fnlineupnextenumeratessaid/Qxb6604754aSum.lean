import Derived.Test.Qxb6604754aFloat
/-
  A sum of floating-point words is monotone in its second summand.
-/
namespace Go.Proofs.Qxb6604754a
open Ieee

variable (f : Format)

theorem rne_zero (N : Nat) : rne N 0 = N := by
  unfold rne
  simp [Nat.mod_one]
theorem rne_scale (m p e : Nat) : rne (m * 2 ^ p) (e + p) = rne m e := by
  have hp := Nat.two_pow_pos p
  have he := Nat.two_pow_pos e
  have h1 : m * 2 ^ p / 2 ^ (e + p) = m / 2 ^ e := by
    rw [Nat.pow_add]; exact Nat.mul_div_mul_right _ _ hp
  have h2 : m * 2 ^ p % 2 ^ (e + p) = (m % 2 ^ e) * 2 ^ p := by
    rw [Nat.pow_add]; exact Nat.mul_mod_mul_right _ _ _
  have h3 : 2 ^ (e + p) < 2 * ((m % 2 ^ e) * 2 ^ p) ↔ 2 ^ e < 2 * (m % 2 ^ e) := by
    rw [Nat.pow_add, ← Nat.mul_assoc]
    exact Nat.mul_lt_mul_right hp
  have h4 : 2 ^ (e + p) = 2 * ((m % 2 ^ e) * 2 ^ p) ↔ 2 ^ e = 2 * (m % 2 ^ e) := by
    rw [Nat.pow_add, ← Nat.mul_assoc]
    exact Nat.mul_right_cancel_iff hp
  unfold rne
  rw [h1, h2]
  congr 2
  rw [decide_eq_decide.2 h3]
  congr 2
  rw [Bool.eq_iff_iff]
  simp only [beq_iff_eq]
  exact h4
theorem cut_even (neg : Bool) (n d : Nat) (h : d ≤ n.log2 + 2) : Toward.even.cut neg n d = rne n d := by
  unfold Toward.cut rne
  simp only [Nat.shiftLeft_eq, Nat.one_mul, Nat.min_eq_left h]
theorem R_eq (N : Nat) : R f N = (N.log2 - f.fractionBits) * f.binade + rne N (N.log2 - f.fractionBits) := by
  unfold R
  by_cases h : N.log2 ≤ f.fractionBits
  · rw [if_pos h, Nat.sub_eq_zero_of_le h, rne_zero]; simp
  · rw [if_neg h]
theorem log2_mul_pow (m p : Nat) (h : m ≠ 0) : (m * 2 ^ p).log2 = m.log2 + p := by
  have hp := Nat.two_pow_pos p
  have h0 : m * 2 ^ p ≠ 0 := Nat.mul_ne_zero h (by omega)
  have h1 := Nat.log2_self_le h
  have h2 := @Nat.lt_log2_self m
  rw [Nat.log2_eq_iff h0]
  refine ⟨?_, ?_⟩
  · rw [Nat.pow_add]; exact Nat.mul_le_mul_right _ h1
  · rw [show m.log2 + p + 1 = (m.log2 + 1) + p by omega, Nat.pow_add]
    exact Nat.mul_lt_mul_of_pos_right h2 hp
theorem nearest_R (neg : Bool) (mag : Nat) (place : Int) (h : f.leastPlace ≤ place) :
    f.nearest neg mag place = f.word neg (min (R f (mag * 2 ^ (place - f.leastPlace).toNat)) f.infRung) := by
  unfold Format.nearest
  by_cases h0 : mag = 0
  · subst h0
    simp [R]
  · rw [if_neg h0]
    obtain ⟨p, hp⟩ : ∃ p : Nat, place = f.leastPlace + p := ⟨(place - f.leastPlace).toNat, by omega⟩
    have hp' : (place - f.leastPlace).toNat = p := by omega
    rw [hp']
    obtain ⟨L, hL⟩ : ∃ L : Nat, L = (mag * 2 ^ p).log2 - f.fractionBits := ⟨_, rfl⟩
    have hlog := log2_mul_pow mag p h0
    have hlast : max (place + mag.log2 - f.fractionBits) f.leastPlace = f.leastPlace + L := by omega
    rw [R_eq f, ← hL]
    simp only [hlast]
    rw [Nat.shiftLeft_eq]
    have e1 : (f.leastPlace + (L : Int) - f.leastPlace).toNat = L := by omega
    rw [e1]
    congr 3
    rcases Nat.le_total p L with c | c
    · have a : (place - (f.leastPlace + (L : Int))).toNat = 0 := by omega
      have b : (f.leastPlace + (L : Int) - place).toNat = L - p := by omega
      rw [a, b, Nat.pow_zero, Nat.mul_one, cut_even neg mag (L - p) (by omega)]
      have := rne_scale mag p (L - p)
      rw [Nat.sub_add_cancel c] at this
      exact this.symm
    · have a : (place - (f.leastPlace + (L : Int))).toNat = p - L := by omega
      have b : (f.leastPlace + (L : Int) - place).toNat = 0 := by omega
      rw [a, b, cut_even neg _ 0 (by omega)]
      have := rne_scale (mag * 2 ^ (p - L)) L 0
      rw [Nat.mul_assoc, ← Nat.pow_add, Nat.sub_add_cancel c, Nat.zero_add] at this
      exact this.symm
theorem rung_word (neg : Bool) (r : Nat) (h : r ≤ f.infRung) : rung f (f.word neg r) = r := by
  have hi := inf_lt f
  unfold rung Format.word
  cases neg
  · simp; exact Nat.mod_eq_of_lt (by omega)
  · simp; exact Nat.mod_eq_of_lt (by omega)
theorem neg_word (neg : Bool) (r : Nat) (h : r ≤ f.infRung) : negW f (f.word neg r) = neg := by
  have hi := inf_lt f
  unfold negW Format.word
  cases neg
  · simp [Nat.div_eq_of_lt (show r < f.signWeight by omega)]
  · have e : (f.signWeight + r) / f.signWeight = 1 := by
      rw [Nat.add_div_left _ (by omega), Nat.div_eq_of_lt (by omega)]
    simp [e]
theorem nn_word (neg : Bool) (r : Nat) (h : r ≤ f.infRung) : nn f (f.word neg r) := by
  unfold nn; rw [rung_word f neg r h]; exact h
theorem ev_word (neg : Bool) (r : Nat) (h : r ≤ f.infRung) : ev f (f.word neg r) = if neg then -(V f r : Int) else (V f r : Int) := by
  unfold ev; rw [rung_word f neg r h, neg_word f neg r h]

/-- an exact value rounded -/
def RV (n : Int) : Int := if n < 0 then -(V f (min (R f n.natAbs) f.infRung) : Int) else (V f (min (R f n.natAbs) f.infRung) : Int)
theorem RV_mono {a b : Int} (h : a ≤ b) : RV f a ≤ RV f b := by
  have m : ∀ x y : Nat, x ≤ y → V f (min (R f x) f.infRung) ≤ V f (min (R f y) f.infRung) := by
    intro x y hxy
    have := R_mono f hxy
    exact V_le f (by omega)
  unfold RV
  by_cases ha : a < 0
  · rw [if_pos ha]
    by_cases hb : b < 0
    · rw [if_pos hb]
      have := m b.natAbs a.natAbs (by omega)
      omega
    · rw [if_neg hb]; omega
  · rw [if_neg ha, if_neg (by omega)]
    have := m a.natAbs b.natAbs (by omega)
    omega
theorem RV_le (n : Int) : RV f n ≤ V f f.infRung := by
  have := V_le f (Nat.min_le_right (R f n.natAbs) f.infRung)
  unfold RV
  split <;> omega
theorem V_zero : V f 0 = 0 := by
  unfold V; rw [if_pos (binade_pos f)]

theorem signed_nat (s : Bool) (m k : Nat) : (signed s m k).natAbs = m * 2 ^ k := by
  unfold signed
  rw [Nat.shiftLeft_eq]
  cases s
  · show ((m * 2 ^ k : Nat) : Int).natAbs = _; rw [Int.natAbs_natCast]
  · show (-((m * 2 ^ k : Nat) : Int)).natAbs = _; rw [Int.natAbs_neg, Int.natAbs_natCast]

/-- two finite words -/
theorem add_fin (a b : Nat) (ha : rung f a < f.infRung) (hb : rung f b < f.infRung) :
    ∃ r, f.add a b = some r ∧ nn f r ∧ ev f r = RV f (ev f a + ev f b) := by
  obtain ⟨m, i, h1, h2, h3⟩ := read_fin f a ha
  obtain ⟨n, j, g1, g2, g3⟩ := read_fin f b hb
  unfold Format.add
  rw [h1, g1]
  obtain ⟨t, ht⟩ : ∃ t, t = signed (negW f a) m (i - min i j).toNat + signed (negW f b) n (j - min i j).toNat := ⟨_, rfl⟩
  obtain ⟨sg, hs⟩ : ∃ sg : Bool, sg = (if t = 0 then negW f a && negW f b else t < 0) := ⟨_, rfl⟩
  refine ⟨f.nearest sg t.natAbs (min i j), ?_, ?_⟩
  · rw [hs, ht]; rfl
  · have hl : f.leastPlace ≤ min i j := by omega
    rw [nearest_R f _ _ _ hl]
    obtain ⟨k, hk⟩ : ∃ k, k = (min i j - f.leastPlace).toNat := ⟨_, rfl⟩
    rw [← hk]
    have hT : ev f a + ev f b = t * (2 ^ k : Nat) := by
      rw [← h3, ← g3, ht, Int.add_mul, ← signed_shift, ← signed_shift]
      unfold dv
      congr 2 <;> omega
    have hN : (ev f a + ev f b).natAbs = t.natAbs * 2 ^ k := by
      rw [hT, Int.natAbs_mul, Int.natAbs_natCast]
    have hp : (0 : Int) < (2 ^ k : Nat) := by exact_mod_cast Nat.two_pow_pos k
    refine ⟨nn_word f _ _ (by omega), ?_⟩
    rw [ev_word f _ _ (by omega), ← hN]
    unfold RV
    rcases Int.lt_trichotomy t 0 with c | c | c
    · have c' : ev f a + ev f b < 0 := by rw [hT]; exact Int.mul_neg_of_neg_of_pos c hp
      have : sg = true := by rw [hs, if_neg (by omega)]; simpa using c
      rw [this, if_pos c']; rfl
    · have c' : ev f a + ev f b = 0 := by rw [hT, c]; simp
      rw [c']
      have : V f (min (R f (Int.natAbs 0)) f.infRung) = 0 := by
        rw [show R f (Int.natAbs 0) = 0 by simp [R]]
        simpa using V_zero f
      rw [this]
      cases sg <;> simp
    · have c' : 0 < ev f a + ev f b := by rw [hT]; exact Int.mul_pos c hp
      have : sg = false := by rw [hs, if_neg (by omega)]; simp; omega
      have n' : ¬ (ev f a + ev f b < 0) := by omega
      rw [this, if_neg n']; rfl

theorem ev_pos_inf (w : Nat) (he : 1 ≤ f.exponentBits) (h : rung f w = f.infRung) (h0 : 0 ≤ ev f w) : negW f w = false := by
  have := inf_val f w h
  have hp := V_inf_pos f he
  cases hn : negW f w
  · rfl
  · rw [hn] at this; simp at this; omega

/-- monotone in the second summand -/
theorem add_mono (he : 1 ≤ f.exponentBits) (now e1 e2 fin r2 : Nat) (h1 : nn f e1) (h2 : nn f e2) (h0 : 0 ≤ ev f e1) (hle : ev f e1 ≤ ev f e2)
    (ha : f.add now e2 = some r2) (hf : fle f r2 fin = true) : ∃ r1, f.add now e1 = some r1 ∧ fle f r1 fin = true := by
  rcases read_cases f he now with ⟨c1, mn, jn, c2, c3, c4⟩ | ⟨c1, c2⟩ | ⟨c1, s, t, c2⟩
  · -- finite
    by_cases d2 : rung f e2 < f.infRung
    · have d1 : rung f e1 < f.infRung := by
        refine Nat.lt_of_le_of_ne h1 fun hc => ?_
        have := ev_pos_inf f e1 he hc h0
        have h3 := inf_val f e1 hc
        rw [this] at h3
        have h4 := fin_bound f e2 d2
        simp at h3
        omega
      obtain ⟨r, g1, g2, g3⟩ := add_fin f now e2 c1 d2
      obtain ⟨r', k1, k2, k3⟩ := add_fin f now e1 c1 d1
      rw [g1] at ha
      cases ha
      obtain ⟨i1, i2, i3⟩ := (fle_iff f he _ _).1 hf
      refine ⟨r', k1, (fle_iff f he _ _).2 ⟨k2, i2, ?_⟩⟩
      have := RV_mono f (show ev f now + ev f e1 ≤ ev f now + ev f e2 by omega)
      omega
    · have d3 : rung f e2 = f.infRung := by unfold nn at h2; omega
      have d4 := ev_pos_inf f e2 he d3 (by omega)
      have d5 := read_inf f he e2 d3
      have d6 : f.add now e2 = some (f.word false f.infRung) := by
        unfold Format.add; rw [c2, d5, d4]; rfl
      rw [d6] at ha
      cases ha
      obtain ⟨i1, i2, i3⟩ := (fle_iff f he _ _).1 hf
      rw [ev_word f _ _ (Nat.le_refl _)] at i3
      simp at i3
      by_cases d1 : rung f e1 < f.infRung
      · obtain ⟨r', k1, k2, k3⟩ := add_fin f now e1 c1 d1
        refine ⟨r', k1, (fle_iff f he _ _).2 ⟨k2, i2, ?_⟩⟩
        have := RV_le f (ev f now + ev f e1)
        omega
      · have d7 : rung f e1 = f.infRung := by unfold nn at h1; omega
        refine ⟨f.word false f.infRung, ?_, hf⟩
        unfold Format.add; rw [c2, read_inf f he e1 d7, ev_pos_inf f e1 he d7 h0]; rfl
  · -- infinite
    by_cases d2 : rung f e2 < f.infRung
    · have d1 : rung f e1 < f.infRung := by
        refine Nat.lt_of_le_of_ne h1 fun hc => ?_
        have := ev_pos_inf f e1 he hc h0
        have h3 := inf_val f e1 hc
        rw [this] at h3
        have h4 := fin_bound f e2 d2
        simp at h3
        omega
      obtain ⟨m, i, k1, -, -⟩ := read_fin f e1 d1
      obtain ⟨n, j, g1, -, -⟩ := read_fin f e2 d2
      unfold Format.add at ha ⊢
      rw [c2, g1] at ha
      rw [c2, k1]
      exact ⟨r2, ha, hf⟩
    · have d3 : rung f e2 = f.infRung := by unfold nn at h2; omega
      have d4 := ev_pos_inf f e2 he d3 (by omega)
      have d5 := read_inf f he e2 d3
      unfold Format.add at ha ⊢
      rw [c2, d5, d4] at ha
      by_cases hs : negW f now = false
      · by_cases d1 : rung f e1 < f.infRung
        · obtain ⟨m, i, k1, -, -⟩ := read_fin f e1 d1
          rw [hs] at ha c2
          rw [c2, k1]
          exact ⟨r2, ha, hf⟩
        · have d7 : rung f e1 = f.infRung := by unfold nn at h1; omega
          rw [c2, read_inf f he e1 d7, ev_pos_inf f e1 he d7 h0]
          exact ⟨r2, ha, hf⟩
      · have hs' : negW f now = true := by simpa using hs
        rw [hs'] at ha
        cases ha
  · unfold Format.add at ha
    rw [c2] at ha
    cases ha

end Go.Proofs.Qxb6604754a
