import Derived.Test.Qxb6604284aItoaPlain
/-
  The plain law of zzParseIntModel: leading zeros dropped, the digits compared with the bound's digits.
-/
namespace Go.Proofs.Qxb6604284a

/-- how many zeros lead -/
def zrun : List Int → Nat
  | [] => 0
  | c :: r => if c = 48 then zrun r + 1 else 0
theorem zrun_le (l : List Int) : zrun l ≤ l.length := by
  induction l with
  | nil => simp [zrun]
  | cons c r ih => simp only [zrun]; split <;> simp <;> omega
/-- how many zeros the model skips: the last digit stays -/
def skip (ds : List Int) : Nat := zrun (ds.take (ds.length - 1))
theorem skip_lt (ds : List Int) (h : 0 < ds.length) : skip ds < ds.length := by
  have := zrun_le (ds.take (ds.length - 1))
  simp at this
  unfold skip; omega
theorem zrun_step (l : List Int) (k : Nat) (hk : k ≤ zrun l) (h : k < l.length) (hz : l[k] = 48) : k + 1 ≤ zrun l := by
  induction l generalizing k with
  | nil => simp at h
  | cons c r ih =>
    cases k with
    | zero => simp at hz; simp [zrun, hz]
    | succ k =>
      simp only [zrun] at hk ⊢
      split at hk
      · rename_i hc
        rw [if_pos hc]
        have := ih k (by omega) (by simpa using h) (by simpa using hz)
        omega
      · omega
theorem zrun_stop (l : List Int) (k : Nat) (hk : k ≤ zrun l) (h : k < l.length) (hz : ¬ l[k] = 48) : zrun l = k := by
  induction l generalizing k with
  | nil => simp at h
  | cons c r ih =>
    cases k with
    | zero => simp at hz; simp [zrun, hz]
    | succ k =>
      simp only [zrun] at hk ⊢
      split at hk
      · rename_i hc
        rw [if_pos hc]
        have := ih k (by omega) (by simpa using h) (by simpa using hz)
        omega
      · omega
theorem skip_step (ds : List Int) (k : Nat) (hk : k ≤ skip ds) (h : k + 1 < ds.length) (hz : ds.getD k 0 = 48) : k + 1 ≤ skip ds := by
  refine zrun_step _ k hk (by simp; omega) ?_
  rw [List.getElem_take]
  simpa [show k < ds.length by omega] using hz
theorem skip_stop (ds : List Int) (k : Nat) (hk : k ≤ skip ds) (h : k + 1 < ds.length) (hz : ¬ ds.getD k 0 = 48) : skip ds = k := by
  refine zrun_stop _ k hk (by simp; omega) ?_
  rw [List.getElem_take]
  simpa [show k < ds.length by omega] using hz
theorem skip_end (ds : List Int) (k : Nat) (hk : k ≤ skip ds) (h : ¬ k + 1 < ds.length) (h0 : 0 < ds.length) : skip ds = k := by
  have := skip_lt ds h0; omega
theorem zrun_drop (l r : List Int) (k : Nat) (hk : k ≤ zrun l) : decVal (l.drop k ++ r) = decVal (l ++ r) := by
  induction l generalizing k with
  | nil => simp
  | cons c t ih =>
    cases k with
    | zero => simp
    | succ k =>
      simp only [zrun] at hk
      split at hk
      · rename_i hc
        subst hc
        rw [List.drop_succ_cons, ih k (by omega), List.cons_append, decVal_cons]
        simp
      · omega
def sigOf (ds : List Int) : List Int := ds.drop (skip ds)
theorem sig_len (ds : List Int) : (sigOf ds).length = ds.length - skip ds := by simp [sigOf]
theorem sig_val (ds : List Int) (h : 0 < ds.length) : decVal (sigOf ds) = decVal ds := by
  have hs := skip_lt ds h
  have hl := zrun_le (ds.take (ds.length - 1))
  have e : ds = ds.take (ds.length - 1) ++ ds.drop (ds.length - 1) := (List.take_append_drop _ ds).symm
  have := zrun_drop (ds.take (ds.length - 1)) (ds.drop (ds.length - 1)) (skip ds) (Nat.le_refl _)
  rw [← e] at this
  rw [← this]
  congr 1
  have gen : ∀ k l, k ≤ (ds.take (ds.length - 1)).length → l = ds → l.drop k = (ds.take (ds.length - 1)).drop k ++ ds.drop (ds.length - 1) := by
    intro k l hk he
    rw [he]
    conv => lhs; rw [e]
    rw [List.drop_append_of_le_length hk]
  exact gen (skip ds) ds (by simp; omega) rfl
theorem sig_dig (ds : List Int) (h : ∀ c ∈ ds, isDig c = true) : ∀ c ∈ sigOf ds, isDig c = true := fun c hc => h c (List.mem_of_mem_drop hc)
/-- a row of two digits or more that the skipping left does not begin with a zero -/
theorem sig_head (ds : List Int) (h : 1 < (sigOf ds).length) : ¬ (sigOf ds).getD 0 0 = 48 := by
  intro hc
  have hl := sig_len ds
  have := skip_step ds (skip ds) (Nat.le_refl _) (by omega) (by
    rw [← hc]; unfold sigOf; rw [List.getD_eq_getElem?_getD, List.getD_eq_getElem?_getD, List.getElem?_drop]; simp)
  omega
theorem val_lt (l : List Int) (h : ∀ c ∈ l, isDig c = true) : decVal l < 10 ^ l.length := by
  induction l with
  | nil => simp [decVal]
  | cons c r ih =>
    have hc : 48 ≤ c ∧ c ≤ 57 := by simpa [isDig] using h c (by simp)
    have hr := ih (fun x hx => h x (by simp [hx]))
    rw [decVal_cons, List.length_cons, Int.pow_succ]
    have hp : (0 : Int) < 10 ^ r.length := Int.pow_pos (by omega)
    have hm : (c - 48) * 10 ^ r.length ≤ 9 * 10 ^ r.length := Int.mul_le_mul_of_nonneg_right (by omega) (by omega)
    omega
theorem val_ge (c : Int) (r : List Int) (h : ∀ x ∈ c :: r, isDig x = true) (hc : ¬ c = 48) : 10 ^ r.length ≤ decVal (c :: r) := by
  have h1 : 48 ≤ c ∧ c ≤ 57 := by simpa [isDig] using h c (by simp)
  have h2 := decVal_nonneg r (fun x hx => h x (by simp [hx]))
  rw [decVal_cons]
  have hp : (0 : Int) < 10 ^ r.length := Int.pow_pos (by omega)
  have hm : 1 * (10 : Int) ^ r.length ≤ (c - 48) * 10 ^ r.length := Int.mul_le_mul_of_nonneg_right (by omega) (by omega)
  omega
theorem ten_mono {a b : Nat} (h : a ≤ b) : (10 : Int) ^ a ≤ 10 ^ b := by
  have : (10 : Nat) ^ a ≤ 10 ^ b := Nat.pow_le_pow_right (by omega) h
  exact_mod_cast this
theorem sig_long (ds : List Int) (h : ∀ c ∈ ds, isDig c = true) (hl : 19 < (sigOf ds).length) : big < decVal (sigOf ds) := by
  have hh := sig_head ds (by omega)
  have hd := sig_dig ds h
  revert hl hh hd
  match sigOf ds with
  | [] => intro hl; simp at hl
  | c :: r =>
    intro hl hh hd
    have hv := val_ge c r hd (by simpa using hh)
    have hm : (10 : Int) ^ 19 ≤ 10 ^ r.length := ten_mono (by simp at hl; omega)
    have hp : (10 : Int) ^ 19 = 10000000000000000000 := by decide
    unfold big; omega
theorem sig_short (ds : List Int) (h : ∀ c ∈ ds, isDig c = true) (hl : (sigOf ds).length < 19) : decVal (sigOf ds) ≤ big - 1 := by
  have hv := val_lt (sigOf ds) (sig_dig ds h)
  have hm : (10 : Int) ^ (sigOf ds).length ≤ 10 ^ 18 := ten_mono (by omega)
  have hp : (10 : Int) ^ 18 = 1000000000000000000 := by decide
  unfold big; omega

/-- the first place at which the two part decides -/
def lexGt : List Int → List Int → Bool
  | a :: r, b :: s => if a = b then lexGt r s else decide (b < a)
  | _, _ => false
theorem lex_val (a b : List Int) (hl : a.length = b.length) (ha : ∀ c ∈ a, isDig c = true) (hb : ∀ c ∈ b, isDig c = true) : lexGt a b = decide (decVal b < decVal a) := by
  induction a generalizing b with
  | nil => cases b with
    | nil => simp [lexGt]
    | cons => simp at hl
  | cons x r ih => cases b with
    | nil => simp at hl
    | cons y s =>
      have hx : 48 ≤ x ∧ x ≤ 57 := by simpa [isDig] using ha x (by simp)
      have hy : 48 ≤ y ∧ y ≤ 57 := by simpa [isDig] using hb y (by simp)
      have hrl : r.length = s.length := by simpa using hl
      have hr := val_lt r (fun c hc => ha c (by simp [hc]))
      have hs := val_lt s (fun c hc => hb c (by simp [hc]))
      have hr0 := decVal_nonneg r (fun c hc => ha c (by simp [hc]))
      have hs0 := decVal_nonneg s (fun c hc => hb c (by simp [hc]))
      simp only [lexGt]
      rw [decVal_cons, decVal_cons, hrl]
      rw [hrl] at hr
      have hp : (0 : Int) < 10 ^ s.length := Int.pow_pos (by omega)
      split
      · rename_i e
        subst e
        rw [ih s hrl (fun c hc => ha c (by simp [hc])) (fun c hc => hb c (by simp [hc]))]
        congr 1
        apply propext
        omega
      · rename_i e
        congr 1
        apply propext
        by_cases h : y < x
        · have hm : (y - 48 + 1) * (10 : Int) ^ s.length ≤ (x - 48) * 10 ^ s.length := Int.mul_le_mul_of_nonneg_right (by omega) (by omega)
          rw [Int.add_mul] at hm
          constructor <;> intro <;> omega
        · have hm : (x - 48 + 1) * (10 : Int) ^ s.length ≤ (y - 48) * 10 ^ s.length := Int.mul_le_mul_of_nonneg_right (by omega) (by omega)
          rw [Int.add_mul] at hm
          constructor <;> intro <;> omega
theorem lex_at (a b : List Int) (j : Nat) (ha : j < a.length) (hb : j < b.length) (he : ∀ i, i < j → a.getD i 0 = b.getD i 0) (hn : ¬ a.getD j 0 = b.getD j 0) : lexGt a b = decide (b.getD j 0 < a.getD j 0) := by
  induction j generalizing a b with
  | zero =>
    match a, b, ha, hb with
    | x :: r, y :: s, _, _ => simp at hn; simp [lexGt, hn]
  | succ j ih =>
    match a, b, ha, hb with
    | x :: r, y :: s, ha, hb =>
      have e0 : x = y := by simpa using he 0 (by omega)
      simp only [lexGt, if_pos e0]
      have := ih r s (by simpa using ha) (by simpa using hb) (fun i hi => by simpa using he (i + 1) (by omega)) (by simpa using hn)
      simpa using this
theorem lex_end (a b : List Int) (hl : a.length = b.length) (he : ∀ i, i < a.length → a.getD i 0 = b.getD i 0) : lexGt a b = false := by
  induction a generalizing b with
  | nil => simp [lexGt]
  | cons x r ih =>
    match b, hl with
    | y :: s, hl =>
      have e0 : x = y := by simpa using he 0 (by simp)
      simp only [lexGt, if_pos e0]
      exact ih s (by simpa using hl) (fun i hi => by simpa using he (i + 1) (by simpa using hi))

/-- the digits of the bounds -/
def limOf (neg : Bool) : List Int := [57, 50, 50, 51, 51, 55, 50, 48, 51, 54, 56, 53, 52, 55, 55, 53, 56, 48, if neg then 56 else 55]
theorem lim_val (neg : Bool) : decVal (limOf neg) = if neg then big else big - 1 := by cases neg <;> decide
theorem lim_dig (neg : Bool) : ∀ c ∈ limOf neg, isDig c = true := by cases neg <;> decide

/-- what the model answers of a row of digits -/
theorem model_long (neg : Bool) (ds : List Int) (h0 : 0 < ds.length) (h : ∀ c ∈ ds, isDig c = true) (hl : 19 < (sigOf ds).length) : rv neg ds = 0 ∧ rok neg ds = false := by
  have := sig_long ds h hl
  rw [sig_val ds h0] at this
  have R := r_over neg ds this
  exact ⟨R.2, R.1⟩
theorem model_eq_gt (neg : Bool) (ds : List Int) (h0 : 0 < ds.length) (h : ∀ c ∈ ds, isDig c = true) (hl : (sigOf ds).length = 19) (hg : lexGt (sigOf ds) (limOf neg) = true) : rv neg ds = 0 ∧ rok neg ds = false := by
  have e := lex_val (sigOf ds) (limOf neg) (by rw [hl]; rfl) (sig_dig ds h) (lim_dig neg)
  rw [hg, lim_val, sig_val ds h0] at e
  have e2 : (if neg then big else big - 1) < decVal ds := by simpa using e.symm
  have hk : rok neg ds = false := by unfold rok; simp; omega
  exact ⟨by simp [rv, hk], hk⟩
theorem model_yes (neg : Bool) (ds : List Int) (hv : decVal ds ≤ if neg then big else big - 1) : rv neg ds = (if neg then - decVal ds else decVal ds) ∧ rok neg ds = true := by
  have hk : rok neg ds = true := by unfold rok; simpa using hv
  exact ⟨by simp [rv, hk], hk⟩
theorem model_eq_le (neg : Bool) (ds : List Int) (h0 : 0 < ds.length) (h : ∀ c ∈ ds, isDig c = true) (hl : (sigOf ds).length = 19) (hg : lexGt (sigOf ds) (limOf neg) = false) : decVal ds ≤ if neg then big else big - 1 := by
  have e := lex_val (sigOf ds) (limOf neg) (by rw [hl]; rfl) (sig_dig ds h) (lim_dig neg)
  rw [hg, lim_val, sig_val ds h0] at e
  have e2 : ¬ (if neg then big else big - 1) < decVal ds := by simpa using e.symm
  omega
theorem model_short (neg : Bool) (ds : List Int) (h0 : 0 < ds.length) (h : ∀ c ∈ ds, isDig c = true) (hl : (sigOf ds).length < 19) : decVal ds ≤ if neg then big else big - 1 := by
  have := sig_short ds h hl
  rw [sig_val ds h0] at this
  cases neg <;> simp <;> omega

end Go.Proofs.Qxb6604284a
