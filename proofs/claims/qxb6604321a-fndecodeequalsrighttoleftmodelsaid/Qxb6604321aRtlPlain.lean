import Derived.Test.Qxb6604321aPlain
/-
  The plain law of the right-to-left model.
-/
namespace Go.Proofs.Qxb6604321a

/-- every percent sign is followed by two hexadecimal digits -/
def PG (U : List Int) : Prop := ∀ i, i < U.length → U.getD i 0 = 37 → i + 2 < U.length ∧ isHex (U.getD (i + 1) 0) = true ∧ isHex (U.getD (i + 2) 0) = true
theorem hex_ne (c : Int) (h : isHex c = true) : ¬ c = 37 := by
  rintro rfl; simp [isHex] at h
theorem PG.tail {c : Int} {r : List Int} (h : PG (c :: r)) : PG r := by
  intro i hi h37
  have h3 := h (i + 1) (by simpa using hi) (by simpa using h37)
  have h4 := h3.1
  simp at h4
  exact ⟨by omega, by simpa using h3.2⟩
theorem PG.tail3 {a b c : Int} {t : List Int} (h : PG (a :: b :: c :: t)) : PG t := h.tail.tail.tail
/-- what is all good is decoded whole, whatever follows -/
theorem dec_append (plus : Bool) (n : Nat) : ∀ U V : List Int, U.length ≤ n → PG U → dec plus (U ++ V) = ((dec plus U).1 ++ (dec plus V).1, (dec plus V).2) := by
  induction n with
  | zero =>
    intro U V hl _
    obtain rfl : U = [] := List.length_eq_zero_iff.1 (by omega)
    simp [dec_nil]
  | succ n ih =>
    intro U V hl hp
    match U, hl, hp with
    | [], _, _ => simp [dec_nil]
    | c :: r, hl, hp =>
      by_cases hc : c = 37
      · subst hc
        have h0 := hp 0 (by simp) (by simp)
        match r, hl, hp, h0 with
        | [], _, _, h0 => simp at h0
        | [_], _, _, h0 => simp at h0
        | a :: b :: t, hl, hp, h0 =>
          have ha : isHex a = true := by simpa using h0.2.1
          have hb : isHex b = true := by simpa using h0.2.2
          have := ih t V (by simp at hl; omega) hp.tail3
          simp only [List.cons_append]
          rw [dec_esc _ _ _ _ ha hb, dec_esc _ _ _ _ ha hb, this]
          simp
      · have := ih r V (by simp at hl; omega) hp.tail
        simp only [List.cons_append]
        rw [dec_plain _ _ _ hc, dec_plain _ _ _ hc, this]
        simp
theorem dec_app (plus : Bool) (U V : List Int) (h : PG U) : dec plus (U ++ V) = ((dec plus U).1 ++ (dec plus V).1, (dec plus V).2) := dec_append plus U.length U V (Nat.le_refl _) h
theorem dec_whole (plus : Bool) (U : List Int) (h : PG U) : (dec plus U).2 = true := by
  have := dec_app plus U [] h
  rw [List.append_nil, dec_nil] at this
  rw [this]

/-- a percent sign that is not followed by two hexadecimal digits -/
def Bad (S : List Int) (i : Nat) : Prop := S.getD i 0 = 37 ∧ ¬ (i + 2 < S.length ∧ isHex (S.getD (i + 1) 0) = true ∧ isHex (S.getD (i + 2) 0) = true)
/-- k is the first bad percent sign, or the length -/
def FB (S : List Int) (k : Nat) : Prop := k ≤ S.length ∧ (∀ i, i < k → ¬ Bad S i) ∧ (k < S.length → Bad S k)
theorem FB.good {S : List Int} {k : Nat} (h : FB S k) : PG (S.take k) := by
  obtain ⟨h1, h2, h3⟩ := h
  intro i hi h37
  have hlen : (S.take k).length = k := by simp; omega
  rw [hlen] at hi
  have get : ∀ j, j < k → (S.take k).getD j 0 = S.getD j 0 := by
    intro j hj
    simp only [List.getD_eq_getElem?_getD]
    rw [List.getElem?_take_of_lt hj]
  rw [get i hi] at h37
  have hb := h2 i hi
  have hg : i + 2 < S.length ∧ isHex (S.getD (i + 1) 0) = true ∧ isHex (S.getD (i + 2) 0) = true := Classical.byContradiction fun hn => hb ⟨h37, hn⟩
  have hk : i + 2 < k := by
    refine Nat.lt_of_not_le fun hle => ?_
    have hlt : k < S.length := by omega
    have h4 := (h3 hlt).1
    rcases (show k = i + 1 ∨ k = i + 2 by omega) with e | e
    · rw [e] at h4; exact hex_ne _ hg.2.1 h4
    · rw [e] at h4; exact hex_ne _ hg.2.2 h4
  rw [hlen, get (i + 1) (by omega), get (i + 2) hk]
  exact ⟨hk, hg.2⟩
theorem dec_bad_at (plus : Bool) (S : List Int) (k : Nat) (hk : k < S.length) (h : Bad S k) : dec plus (S.drop k) = ([], false) := by
  obtain ⟨h1, h2⟩ := h
  rw [drop_at S k hk, h1]
  by_cases hl : k + 2 < S.length
  · rw [drop_at S (k + 1) (by omega), drop_at S (k + 2) hl]
    refine dec_bad _ _ _ _ ?_
    cases ha : isHex (S.getD (k + 1) 0) with
    | false => exact .inl rfl
    | true =>
      cases hb : isHex (S.getD (k + 2) 0) with
      | false => exact .inr rfl
      | true => exact absurd ⟨hl, ha, hb⟩ h2
  · exact dec_short _ _ (by simp; omega)
/-- decode's answer by the first bad percent sign -/
theorem dec_fb (plus : Bool) (S : List Int) (k : Nat) (h : FB S k) : dec plus S = ((dec plus (S.take k)).1, decide (k = S.length)) := by
  have e := dec_app plus (S.take k) (S.drop k) h.good
  rw [List.take_append_drop] at e
  rw [e]
  by_cases hk : k < S.length
  · rw [dec_bad_at plus S k hk (h.2.2 hk)]
    simp; omega
  · have : k = S.length := by have := h.1; omega
    rw [List.drop_of_length_le (by omega), dec_nil]
    simp [this]

/-- the right-to-left loop: rev is what has been decoded, last byte first; T.take k is left -/
def RL (plus : Bool) (T : List Int) (k : Nat) (rev : List Int) : Prop :=
  k ≤ T.length ∧ PG (T.take k) ∧ (dec plus T).1 = (dec plus (T.take k)).1 ++ rev.reverse ∧ rev.length + k ≤ T.length ∧ ∀ c ∈ rev, 0 ≤ c ∧ c ≤ 255
theorem rl_start (plus : Bool) (T : List Int) (h : PG T) : RL plus T T.length [] := by
  refine ⟨Nat.le_refl _, by rw [List.take_length]; exact h, by rw [List.take_length]; simp, by simp, by simp⟩
theorem take_get (T : List Int) (k j : Nat) (hj : j < k) : (T.take k).getD j 0 = T.getD j 0 := by
  simp only [List.getD_eq_getElem?_getD]
  rw [List.getElem?_take_of_lt hj]
theorem take_snoc (T : List Int) (k : Nat) (h : k < T.length) : T.take (k + 1) = T.take k ++ [T.getD k 0] := by
  rw [List.take_succ_eq_append_getElem h]; simp [h]
theorem rl_esc {plus : Bool} {T : List Int} {k : Nat} {rev : List Int} (h : RL plus T (k + 3) rev) (h37 : T.getD k 0 = 37) : RL plus T k (rev ++ [hexN (T.getD (k + 1) 0) * 16 + hexN (T.getD (k + 2) 0)]) ∧ isHex (T.getD (k + 1) 0) = true ∧ isHex (T.getD (k + 2) 0) = true := by
  obtain ⟨h1, h2, h3, h4, h5⟩ := h
  have hl3 : (T.take (k + 3)).length = k + 3 := by simp; omega
  have hx := h2 k (by omega) (by rw [take_get _ _ _ (by omega)]; exact h37)
  rw [take_get _ _ _ (by omega), take_get _ _ _ (by omega)] at hx
  have hpg : PG (T.take k) := by
    intro i hi hi37
    have hlk : (T.take k).length = k := by simp; omega
    rw [hlk] at hi
    rw [take_get _ _ _ hi] at hi37
    have hg := h2 i (by omega) (by rw [take_get _ _ _ (by omega)]; exact hi37)
    rw [hl3, take_get _ _ _ (by omega)] at hg
    have hi2 : i + 2 < k := by
      refine Nat.lt_of_not_le fun hle => ?_
      rcases (show i + 1 = k ∨ i + 2 = k by omega) with e | e
      · rw [e] at hg; exact hex_ne _ hg.2.1 h37
      · have := hg.2.2
        rw [take_get _ _ _ (by omega), e] at this
        exact hex_ne _ this h37
    rw [hlk, take_get _ _ _ (by omega), take_get _ _ _ (by omega)]
    rw [take_get _ _ _ (by omega)] at hg
    exact ⟨hi2, hg.2⟩
  have e : T.take (k + 3) = T.take k ++ [37, T.getD (k + 1) 0, T.getD (k + 2) 0] := by
    rw [take_snoc T (k + 2) (by omega), take_snoc T (k + 1) (by omega), take_snoc T k (by omega), h37]
    simp
  rw [e, dec_app plus _ _ hpg, dec_esc _ _ _ _ hx.2.1 hx.2.2, dec_nil] at h3
  refine ⟨⟨by omega, hpg, by rw [h3]; simp, by simp; omega, fun c hc => ?_⟩, hx.2⟩
  rcases List.mem_append.1 hc with h | h
  · exact h5 c h
  · have q1 := hexN_bd (T.getD (k + 1) 0)
    have q2 := hexN_bd (T.getD (k + 2) 0)
    have : c = hexN (T.getD (k + 1) 0) * 16 + hexN (T.getD (k + 2) 0) := by simpa using h
    omega
theorem rl_plain {plus : Bool} {T : List Int} {k : Nat} {rev : List Int} (h : RL plus T (k + 1) rev) (hn : ¬ (2 ≤ k ∧ T.getD (k - 2) 0 = 37)) (hb : 0 ≤ T.getD k 0 ∧ T.getD k 0 ≤ 255) : RL plus T k (rev ++ [plusOf plus (T.getD k 0)]) := by
  obtain ⟨h1, h2, h3, h4, h5⟩ := h
  have hl1 : (T.take (k + 1)).length = k + 1 := by simp; omega
  have hne : ¬ T.getD k 0 = 37 := by
    intro e
    have := h2 k (by omega) (by rw [take_get _ _ _ (by omega)]; exact e)
    omega
  have hpg : PG (T.take k) := by
    intro i hi hi37
    have hlk : (T.take k).length = k := by simp; omega
    rw [hlk] at hi
    rw [take_get _ _ _ hi] at hi37
    have hg := h2 i (by omega) (by rw [take_get _ _ _ (by omega)]; exact hi37)
    rw [hl1, take_get _ _ _ (by omega)] at hg
    have hi2 : i + 2 < k := by
      refine Nat.lt_of_not_le fun hle => ?_
      have e : i = k - 2 := by omega
      exact hn ⟨by omega, by rw [← e]; exact hi37⟩
    rw [hlk, take_get _ _ _ (by omega), take_get _ _ _ (by omega)]
    rw [take_get _ _ _ (by omega)] at hg
    exact ⟨hi2, hg.2⟩
  rw [take_snoc T k (by omega), dec_app plus _ _ hpg, dec_plain _ _ _ hne, dec_nil] at h3
  refine ⟨by omega, hpg, by rw [h3]; simp, by simp; omega, fun c hc => ?_⟩
  rcases List.mem_append.1 hc with h | h
  · exact h5 c h
  · have : c = plusOf plus (T.getD k 0) := by simpa using h
    subst this
    unfold plusOf; split <;> omega
theorem rl_end {plus : Bool} {T : List Int} {rev : List Int} (h : RL plus T 0 rev) : (dec plus T).1 = rev.reverse := by
  have := h.2.2.1
  simpa [dec_nil] using this

/-- the two tables of hexadecimal digits -/
theorem tab_hit : ∀ i : Fin 16, (isHex ((digT false).getD i.val 0) = true ∧ hexN ((digT false).getD i.val 0) = i.val) ∧ (isHex ((digT true).getD i.val 0) = true ∧ hexN ((digT true).getD i.val 0) = i.val) := by decide
theorem tab_miss (c : Int) (h : 0 ≤ c ∧ c ≤ 255) (hn : ∀ i, i < 16 → ¬ (digT false).getD i 0 = c ∧ ¬ (digT true).getD i 0 = c) : isHex c = false ∧ hexN c = 0 := by
  by_cases hx : isHex c = true
  · exfalso
    have hr : (48 ≤ c ∧ c ≤ 57) ∨ (97 ≤ c ∧ c ≤ 102) ∨ (65 ≤ c ∧ c ≤ 70) := by simpa [isHex] using hx
    have all : ∀ i : Fin 256, isHex (i.val : Int) = true → ((digT false).getD (hexN (i.val : Int)).toNat 0 = (i.val : Int) ∨ (digT true).getD (hexN (i.val : Int)).toNat 0 = (i.val : Int)) := by decide +kernel
    have := all ⟨c.toNat, by omega⟩
    simp only at this
    rw [Int.toNat_of_nonneg h.1] at this
    have hb := hexN_bd c
    rcases this hx with e | e
    · exact (hn _ (by omega)).1 e
    · exact (hn _ (by omega)).2 e
  · have hf : isHex c = false := by simpa using hx
    refine ⟨hf, ?_⟩
    have hr : ¬ ((48 ≤ c ∧ c ≤ 57) ∨ (97 ≤ c ∧ c ≤ 102) ∨ (65 ≤ c ∧ c ≤ 70)) := by simpa [isHex] using hx
    unfold hexN
    rw [if_neg (by omega), if_neg (by omega), if_neg (by omega)]

end Go.Proofs.Qxb6604321a
