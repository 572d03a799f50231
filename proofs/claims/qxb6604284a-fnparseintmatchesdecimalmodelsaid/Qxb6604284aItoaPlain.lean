import Derived.Test.Qxb6604284aPlain
/-
  The plain law of zzItoa: digits laid from the right, and what parseInt makes of them.
-/
namespace Go.Proofs.Qxb6604284a

theorem fold_base (m : Int) (l : List Int) : l.foldl (fun m c => m * 10 + (c - 48)) m = m * 10 ^ l.length + l.foldl (fun m c => m * 10 + (c - 48)) 0 := by
  induction l generalizing m with
  | nil => simp
  | cons c r ih =>
    simp only [List.foldl_cons, List.length_cons]
    rw [ih (m * 10 + (c - 48)), ih (0 * 10 + (c - 48))]
    rw [Int.pow_succ, Int.add_mul, Int.zero_mul, Int.zero_add, Int.mul_assoc, Int.mul_comm 10, Int.add_assoc]
theorem decVal_cons (c : Int) (l : List Int) : decVal (c :: l) = (c - 48) * 10 ^ l.length + decVal l := by
  unfold decVal
  rw [List.foldl_cons, fold_base]
  simp

/-- what the loop of zzItoa knows: u is still to be written, ds is written; together they are U -/
def Laid (U u : Int) (ds : List Int) : Prop := 0 ≤ u ∧ U = u * 10 ^ ds.length + decVal ds ∧ (∀ c ∈ ds, isDig c = true) ∧ 1 ≤ ds.length ∧ ds.length ≤ 19

theorem laid_first (U : Int) (h : 0 ≤ U) : Laid U (U / 10) [48 + U % 10] := by
  have h1 : 0 ≤ U % 10 := Int.emod_nonneg _ (by omega)
  have h2 : U % 10 < 10 := Int.emod_lt_of_pos _ (by omega)
  refine ⟨by omega, ?_, ?_, by simp, by simp⟩
  · simp [decVal]; omega
  · simp [isDig]; omega
theorem laid_len (U u : Int) (ds : List Int) (h : Laid U u ds) (hu : 0 < u) (hU : U ≤ 9223372036854775808) : ds.length ≤ 18 := by
  obtain ⟨_, h2, h3, _, _⟩ := h
  have hv := decVal_nonneg ds h3
  have hp : (10 : Int) ^ 19 = 10000000000000000000 := by decide
  refine Nat.le_of_not_lt fun hc => ?_
  have h19 : (10 : Nat) ^ 19 ≤ 10 ^ ds.length := Nat.pow_le_pow_right (by omega) (by omega)
  have h19' : (10 : Int) ^ 19 ≤ 10 ^ ds.length := by exact_mod_cast h19
  have hmul : 1 * (10 : Int) ^ ds.length ≤ u * 10 ^ ds.length := Int.mul_le_mul_of_nonneg_right (by omega) (by omega)
  omega
theorem laid_step (U u : Int) (ds : List Int) (h : Laid U u ds) (hu : 0 < u) (hU : U ≤ 9223372036854775808) : Laid U (u / 10) ((48 + u % 10) :: ds) := by
  have hl := laid_len U u ds h hu hU
  obtain ⟨h1, h2, h3, h4, h5⟩ := h
  have m1 : 0 ≤ u % 10 := Int.emod_nonneg _ (by omega)
  have m2 : u % 10 < 10 := Int.emod_lt_of_pos _ (by omega)
  refine ⟨by omega, ?_, ?_, by simp, by simp; omega⟩
  · rw [decVal_cons, List.length_cons, Int.pow_succ]
    have e : u = u / 10 * 10 + u % 10 := by omega
    have e2 : u * 10 ^ ds.length = u / 10 * (10 ^ ds.length * 10) + (48 + u % 10 - 48) * 10 ^ ds.length := by
      conv => lhs; rw [e]
      rw [Int.add_mul, Int.mul_assoc, Int.mul_comm 10]
      congr 2
      omega
    rw [h2, e2]
    omega
  · intro c hc
    rcases List.mem_cons.1 hc with rfl | hc
    · simp [isDig]; omega
    · exact h3 c hc
theorem laid_end (U : Int) (ds : List Int) (h : Laid U 0 ds) : decVal ds = U := by
  have := h.2.1; simp at this; omega

/-- parseInt reads what zzItoa wrote -/
theorem read_pos (ds : List Int) (x : Int) (hx : x ≤ 9223372036854775807) (h : Laid x 0 ds) : intV ds = x ∧ okB ds = true := by
  have hv := laid_end x ds h
  obtain ⟨_, _, h3, h4, _⟩ := h
  have hd := (digRun_all ds).2 h3
  match ds, h4 with
  | c :: r, _ =>
    have hc : 48 ≤ c ∧ c ≤ 57 := by simpa [isDig] using h3 c (by simp)
    have B := body_pos c r (by simp; omega)
    have R := ans_good (c :: r) (by rw [B.2]; exact good_run _ (by simp) hd)
    rw [B.1, B.2] at R
    have S := r_pos (c :: r) (by rw [hv]; unfold big; omega)
    rw [R.1, R.2, S.1, S.2]
    exact ⟨hv, rfl⟩
theorem read_neg (ds : List Int) (x : Int) (hx : -9223372036854775808 ≤ x) (h : Laid (-x) 0 ds) : intV (45 :: ds) = x ∧ okB (45 :: ds) = true := by
  have hv := laid_end (-x) ds h
  obtain ⟨_, _, h3, h4, _⟩ := h
  have hd := (digRun_all ds).2 h3
  have B := body_neg ds
  have R := ans_good (45 :: ds) (by rw [B.2]; exact good_run _ (by omega) hd)
  rw [B.1, B.2] at R
  have S := r_neg ds (by rw [hv]; unfold big; omega)
  rw [R.1, R.2, S.1, S.2, hv]
  exact ⟨by omega, rfl⟩

end Go.Proofs.Qxb6604284a
