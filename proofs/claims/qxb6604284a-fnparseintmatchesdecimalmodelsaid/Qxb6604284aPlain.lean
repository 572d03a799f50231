/-
  The plain law of parseInt: lists of byte values, no Go in sight.
-/
namespace Go.Proofs.Qxb6604284a

/-- a byte that is a decimal digit -/
def isDig (c : Int) : Bool := decide (48 ≤ c) && decide (c ≤ 57)
/-- how long the leading run of digits is -/
def digRun : List Int → Nat
  | [] => 0
  | c :: r => if isDig c then digRun r + 1 else 0
theorem digRun_le (zs : List Int) : digRun zs ≤ zs.length := by
  induction zs with
  | nil => simp [digRun]
  | cons c r ih => simp only [digRun]; split <;> simp <;> omega
theorem digRun_step (zs : List Int) (k : Nat) (hk : k ≤ digRun zs) (h : k < zs.length) (hd : isDig zs[k] = true) : k + 1 ≤ digRun zs := by
  induction zs generalizing k with
  | nil => simp at h
  | cons c r ih =>
    cases k with
    | zero => simp at hd; simp [digRun, hd]
    | succ k =>
      simp only [digRun] at hk ⊢
      split at hk
      · rename_i hc
        rw [if_pos hc]
        have := ih k (by omega) (by simpa using h) (by simpa using hd)
        omega
      · omega
theorem digRun_stop (zs : List Int) (k : Nat) (hk : k ≤ digRun zs) (h : k < zs.length) (hd : isDig zs[k] = false) : digRun zs = k := by
  induction zs generalizing k with
  | nil => simp at h
  | cons c r ih =>
    cases k with
    | zero => simp at hd; simp [digRun, hd]
    | succ k =>
      simp only [digRun] at hk ⊢
      split at hk
      · rename_i hc
        rw [if_pos hc]
        have := ih k (by omega) (by simpa using h) (by simpa using hd)
        omega
      · omega
theorem digRun_end (zs : List Int) (k : Nat) (hk : k ≤ digRun zs) (h : ¬ k < zs.length) : digRun zs = k := by
  have := digRun_le zs; omega
theorem digRun_all (zs : List Int) : digRun zs = zs.length ↔ ∀ c ∈ zs, isDig c = true := by
  induction zs with
  | nil => simp [digRun]
  | cons c r ih =>
    simp only [digRun, List.length_cons, List.mem_cons, forall_eq_or_imp]
    split
    · rename_i hc; simp [hc, ← ih]
    · rename_i hc; simp [hc]

/-- the value of a row of decimal digits -/
def decVal (l : List Int) : Int := l.foldl (fun m c => m * 10 + (c - 48)) 0
theorem decVal_snoc (l : List Int) (c : Int) : decVal (l ++ [c]) = decVal l * 10 + (c - 48) := by simp [decVal, List.foldl_append]
theorem decVal_take (l : List Int) (k : Nat) (h : k < l.length) : decVal (l.take (k + 1)) = decVal (l.take k) * 10 + (l[k] - 48) := by
  rw [List.take_succ_eq_append_getElem h, decVal_snoc]
theorem foldVal_le (m : Int) (l : List Int) (hm : 0 ≤ m) (h : ∀ c ∈ l, isDig c = true) : m ≤ l.foldl (fun m c => m * 10 + (c - 48)) m := by
  induction l generalizing m with
  | nil => simp
  | cons c r ih =>
    have hc : 48 ≤ c ∧ c ≤ 57 := by simpa [isDig] using h c (by simp)
    have := ih (m * 10 + (c - 48)) (by omega) (fun x hx => h x (by simp [hx]))
    simp only [List.foldl_cons]
    omega
theorem decVal_nonneg (l : List Int) (h : ∀ c ∈ l, isDig c = true) : 0 ≤ decVal l := foldVal_le 0 l (by omega) h
theorem decVal_take_le (l : List Int) (k : Nat) (h : ∀ c ∈ l, isDig c = true) : decVal (l.take k) ≤ decVal l := by
  have e : l = l.take k ++ l.drop k := (List.take_append_drop k l).symm
  have h0 : 0 ≤ decVal (l.take k) := decVal_nonneg _ (fun c hc => h c (List.mem_of_mem_take hc))
  have := foldVal_le (decVal (l.take k)) (l.drop k) h0 (fun c hc => h c (List.mem_of_mem_drop hc))
  conv => rhs; rw [e]
  unfold decVal at this ⊢
  rw [List.foldl_append]
  exact this
theorem isDig_get (l : List Int) (h : ∀ c ∈ l, isDig c = true) (k : Nat) (hk : k < l.length) : 48 ≤ l[k] ∧ l[k] ≤ 57 := by
  simpa [isDig] using h l[k] (List.getElem_mem hk)

/-- 2^63, kept behind a name -/
def big : Int := 9223372036854775808

/-- what parseInt answers of a row of digits behind a sign or none -/
def rok (neg : Bool) (ds : List Int) : Bool := decide (decVal ds ≤ if neg then big else big - 1)
def rv (neg : Bool) (ds : List Int) : Int := if rok neg ds then (if neg then - decVal ds else decVal ds) else 0
theorem r_over (neg : Bool) (ds : List Int) (h : big < decVal ds) : rok neg ds = false ∧ rv neg ds = 0 := by
  have : rok neg ds = false := by
    unfold rok; cases neg <;> simp <;> omega
  exact ⟨this, by simp [rv, this]⟩
theorem r_pos_over (ds : List Int) (h : big - 1 < decVal ds) : rok false ds = false ∧ rv false ds = 0 := by
  have : rok false ds = false := by
    unfold rok; simp; omega
  exact ⟨this, by simp [rv, this]⟩
theorem r_pos (ds : List Int) (h : decVal ds ≤ big - 1) : rok false ds = true ∧ rv false ds = decVal ds := by
  have : rok false ds = true := by
    unfold rok; simp; omega
  exact ⟨this, by simp [rv, this]⟩
theorem r_neg (ds : List Int) (h : decVal ds ≤ big) : rok true ds = true ∧ rv true ds = - decVal ds := by
  have : rok true ds = true := by
    unfold rok; simp; omega
  exact ⟨this, by simp [rv, this]⟩
/-- ahead of the last digit the value is past a tenth of 2^63: too large -/
theorem over_tenth (ds : List Int) (h : ∀ c ∈ ds, isDig c = true) (k : Nat) (hk : k < ds.length) (ht : 922337203685477580 < decVal (ds.take k)) : big < decVal ds := by
  have h1 := decVal_take ds k hk
  have h2 := decVal_take_le ds (k + 1) h
  have h3 := isDig_get ds h k hk
  unfold big
  omega
theorem over_step (ds : List Int) (h : ∀ c ∈ ds, isDig c = true) (k : Nat) (hk : k < ds.length) (ht : 9223372036854775808 < decVal (ds.take k) * 10 + (ds[k] - 48)) : big < decVal ds := by
  have h1 := decVal_take ds k hk
  have h2 := decVal_take_le ds (k + 1) h
  unfold big
  omega

/-- what parseInt answers -/
def negOf : List Int → Bool
  | c :: _ => c == 45
  | [] => false
def bodyOf (zs : List Int) : List Int := if negOf zs then zs.tail else zs
def goodB (ds : List Int) : Bool := decide (ds ≠ []) && decide (digRun ds = ds.length)
def okB (zs : List Int) : Bool := goodB (bodyOf zs) && rok (negOf zs) (bodyOf zs)
def intV (zs : List Int) : Int := if goodB (bodyOf zs) then rv (negOf zs) (bodyOf zs) else 0
theorem bad_empty : goodB [] = false := by simp [goodB]
theorem bad_run (ds : List Int) (h : digRun ds < ds.length) : goodB ds = false := by
  simp [goodB]; omega
theorem good_run (ds : List Int) (h0 : 0 < ds.length) (h : digRun ds = ds.length) : goodB ds = true := by
  simp [goodB, h]; intro e; subst e; simp at h0
theorem ans_bad (zs : List Int) (h : goodB (bodyOf zs) = false) : intV zs = 0 ∧ okB zs = false := by simp [intV, okB, h]
theorem ans_good (zs : List Int) (h : goodB (bodyOf zs) = true) : intV zs = rv (negOf zs) (bodyOf zs) ∧ okB zs = rok (negOf zs) (bodyOf zs) := by simp [intV, okB, h]
theorem body_neg (r : List Int) : negOf (45 :: r) = true ∧ bodyOf (45 :: r) = r := by simp [negOf, bodyOf]
theorem body_pos (c : Int) (r : List Int) (h : (c == 45) = false) : negOf (c :: r) = false ∧ bodyOf (c :: r) = c :: r := by simp [negOf, bodyOf, h]
theorem body_nil : negOf [] = false ∧ bodyOf [] = [] := by simp [negOf, bodyOf]

end Go.Proofs.Qxb6604284a
