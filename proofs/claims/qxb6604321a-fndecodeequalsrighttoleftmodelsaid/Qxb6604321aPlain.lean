/-
  The plain law of percent-decoding: lists of byte values, no Go in sight.
-/
namespace Go.Proofs.Qxb6604321a

def isHex (c : Int) : Bool := (decide (48 ≤ c) && decide (c ≤ 57)) || ((decide (97 ≤ c) && decide (c ≤ 102)) || (decide (65 ≤ c) && decide (c ≤ 70)))
def hexN (c : Int) : Int := if 48 ≤ c ∧ c ≤ 57 then c - 48 else if 97 ≤ c ∧ c ≤ 102 then c - 97 + 10 else if 65 ≤ c ∧ c ≤ 70 then c - 65 + 10 else 0
theorem hexN_bd (c : Int) : 0 ≤ hexN c ∧ hexN c ≤ 15 := by unfold hexN; split <;> (try split) <;> (try split) <;> omega

def plusOf (plus : Bool) (c : Int) : Int := if plus = true ∧ c = 43 then 32 else c
/-- what decode leaves in the buffer, and whether it could decode all -/
def dec (plus : Bool) : List Int → List Int × Bool
  | [] => ([], true)
  | c :: r =>
    if c = 37 then
      match r with
      | a :: b :: t => if isHex a && isHex b then ((hexN a * 16 + hexN b) :: (dec plus t).1, (dec plus t).2) else ([], false)
      | _ => ([], false)
    else (plusOf plus c :: (dec plus r).1, (dec plus r).2)

theorem dec_nil (plus : Bool) : dec plus [] = ([], true) := rfl
theorem dec_plain (plus : Bool) (c : Int) (r : List Int) (h : ¬ c = 37) : dec plus (c :: r) = (plusOf plus c :: (dec plus r).1, (dec plus r).2) := by
  match r with
  | [] => simp [dec, h]
  | [_] => simp [dec, h]
  | _ :: _ :: _ => simp [dec, h]
theorem dec_esc (plus : Bool) (a b : Int) (t : List Int) (ha : isHex a = true) (hb : isHex b = true) : dec plus (37 :: a :: b :: t) = ((hexN a * 16 + hexN b) :: (dec plus t).1, (dec plus t).2) := by
  simp [dec, ha, hb]
theorem dec_bad (plus : Bool) (a b : Int) (t : List Int) (h : isHex a = false ∨ isHex b = false) : dec plus (37 :: a :: b :: t) = ([], false) := by
  rcases h with h | h <;> simp [dec, h]
theorem dec_short (plus : Bool) (r : List Int) (h : r.length < 2) : dec plus (37 :: r) = ([], false) := by
  match r, h with
  | [], _ => simp [dec]
  | [_], _ => simp [dec]

/-- out has been decoded, and S.drop k is left -/
def Got (plus : Bool) (S : List Int) (k : Nat) (out : List Int) : Prop :=
  (dec plus S).1 = out ++ (dec plus (S.drop k)).1 ∧ (dec plus S).2 = (dec plus (S.drop k)).2 ∧ out.length ≤ k ∧ ∀ c ∈ out, 0 ≤ c ∧ c ≤ 255
theorem got_start (plus : Bool) (S : List Int) : Got plus S 0 [] := ⟨by simp, by simp, by simp, by simp⟩
theorem drop_at (S : List Int) (k : Nat) (h : k < S.length) : S.drop k = S.getD k 0 :: S.drop (k + 1) := by
  rw [List.drop_eq_getElem_cons h]; simp [h]
theorem got_plain {plus : Bool} {S : List Int} {k : Nat} {out : List Int} (g : Got plus S k out) (h : k < S.length) (hc : ¬ S.getD k 0 = 37) (hb : 0 ≤ S.getD k 0 ∧ S.getD k 0 ≤ 255) : Got plus S (k + 1) (out ++ [plusOf plus (S.getD k 0)]) := by
  obtain ⟨g1, g2, g3, g4⟩ := g
  rw [drop_at S k h, dec_plain _ _ _ hc] at g1 g2
  refine ⟨by rw [g1]; simp, g2, by simp; omega, fun c hc => ?_⟩
  rcases List.mem_append.1 hc with h | h
  · exact g4 c h
  · have : c = plusOf plus (S.getD k 0) := by simpa using h
    subst this
    unfold plusOf; split <;> omega
theorem drop3 (S : List Int) (k : Nat) (h : k + 2 < S.length) : S.drop k = S.getD k 0 :: S.getD (k + 1) 0 :: S.getD (k + 2) 0 :: S.drop (k + 3) := by
  rw [drop_at S k (by omega), drop_at S (k + 1) (by omega), drop_at S (k + 2) (by omega)]
theorem got_esc {plus : Bool} {S : List Int} {k : Nat} {out : List Int} (g : Got plus S k out) (h : k + 2 < S.length) (hc : S.getD k 0 = 37) (ha : isHex (S.getD (k + 1) 0) = true) (hb : isHex (S.getD (k + 2) 0) = true) : Got plus S (k + 3) (out ++ [hexN (S.getD (k + 1) 0) * 16 + hexN (S.getD (k + 2) 0)]) := by
  obtain ⟨g1, g2, g3, g4⟩ := g
  rw [drop3 S k h, hc, dec_esc _ _ _ _ ha hb] at g1 g2
  refine ⟨by rw [g1]; simp, g2, by simp; omega, fun c hc => ?_⟩
  rcases List.mem_append.1 hc with h | h
  · exact g4 c h
  · have e : c = hexN (S.getD (k + 1) 0) * 16 + hexN (S.getD (k + 2) 0) := by simpa using h
    have h1 := hexN_bd (S.getD (k + 1) 0)
    have h2 := hexN_bd (S.getD (k + 2) 0)
    omega
theorem got_end {plus : Bool} {S : List Int} {k : Nat} {out : List Int} (g : Got plus S k out) (h : ¬ k < S.length) : dec plus S = (out, true) := by
  obtain ⟨g1, g2, -, -⟩ := g
  rw [List.drop_of_length_le (by omega), dec_nil] at g1 g2
  exact Prod.ext (by simpa using g1) g2
theorem got_short {plus : Bool} {S : List Int} {k : Nat} {out : List Int} (g : Got plus S k out) (h : k < S.length) (h2 : ¬ k + 2 < S.length) (hc : S.getD k 0 = 37) : dec plus S = (out, false) := by
  obtain ⟨g1, g2, -, -⟩ := g
  rw [drop_at S k h, hc, dec_short _ _ (by simp; omega)] at g1 g2
  exact Prod.ext (by simpa using g1) g2
theorem got_bad {plus : Bool} {S : List Int} {k : Nat} {out : List Int} (g : Got plus S k out) (h : k + 2 < S.length) (hc : S.getD k 0 = 37) (hx : isHex (S.getD (k + 1) 0) = false ∨ isHex (S.getD (k + 2) 0) = false) : dec plus S = (out, false) := by
  obtain ⟨g1, g2, -, -⟩ := g
  rw [drop3 S k h, hc, dec_bad _ _ _ _ hx] at g1 g2
  exact Prod.ext (by simpa using g1) g2

/-- percent-encoding -/
def digT (upper : Bool) : List Int := if upper then [48, 49, 50, 51, 52, 53, 54, 55, 56, 57, 65, 66, 67, 68, 69, 70] else [48, 49, 50, 51, 52, 53, 54, 55, 56, 57, 97, 98, 99, 100, 101, 102]
def encB (all upper : Bool) (c : Int) : List Int :=
  if all = true ∨ c = 37 ∨ c = 43 then [37, (digT upper).getD (c / 16).toNat 0, (digT upper).getD (c % 16).toNat 0] else [c]
def encL (all upper : Bool) (l : List Int) : List Int := l.flatMap (encB all upper)
theorem encL_snoc (all upper : Bool) (l : List Int) (c : Int) : encL all upper (l ++ [c]) = encL all upper l ++ encB all upper c := by simp [encL]
theorem encB_len (all upper : Bool) (c : Int) : (encB all upper c).length ≤ 3 := by unfold encB; split <;> simp
theorem encL_len (all upper : Bool) (l : List Int) : (encL all upper l).length ≤ 3 * l.length := by
  induction l with
  | nil => simp [encL]
  | cons c r ih =>
    have := encB_len all upper c
    simp only [encL, List.flatMap_cons, List.length_append, List.length_cons] at ih ⊢
    omega
theorem dig_hex (upper : Bool) : ∀ i : Fin 16, isHex ((digT upper).getD i.val 0) = true ∧ hexN ((digT upper).getD i.val 0) = i.val ∧ 0 ≤ (digT upper).getD i.val 0 ∧ (digT upper).getD i.val 0 ≤ 255 := by cases upper <;> decide
theorem dec_encB (plus all upper : Bool) (c : Int) (h : 0 ≤ c ∧ c ≤ 255) (r : List Int) : dec plus (encB all upper c ++ r) = (c :: (dec plus r).1, (dec plus r).2) := by
  unfold encB
  split
  · have h1 := dig_hex upper ⟨(c / 16).toNat, by omega⟩
    have h2 := dig_hex upper ⟨(c % 16).toNat, by omega⟩
    simp only [List.cons_append, List.nil_append]
    rw [dec_esc _ _ _ _ h1.1 h2.1, h1.2.1, h2.2.1]
    have e : ((c / 16).toNat : Int) * 16 + ((c % 16).toNat : Int) = c := by omega
    simp only [e]
  · rename_i hn
    simp only [List.cons_append, List.nil_append]
    rw [dec_plain _ _ _ (fun e => hn (.inr (.inl e)))]
    have : plusOf plus c = c := by
      unfold plusOf; rw [if_neg (fun e => hn (.inr (.inr e.2)))]
    rw [this]
theorem dec_encL (plus all upper : Bool) (l : List Int) (h : ∀ c ∈ l, 0 ≤ c ∧ c ≤ 255) : dec plus (encL all upper l) = (l, true) := by
  induction l with
  | nil => rfl
  | cons c r ih =>
    have e : encL all upper (c :: r) = encB all upper c ++ encL all upper r := by simp [encL]
    rw [e, dec_encB plus all upper c (h c (by simp)), ih (fun x hx => h x (by simp [hx]))]
theorem encB_bd (all upper : Bool) (c : Int) (h : 0 ≤ c ∧ c ≤ 255) : ∀ x ∈ encB all upper c, 0 ≤ x ∧ x ≤ 255 := by
  unfold encB
  split
  · have h1 := dig_hex upper ⟨(c / 16).toNat, by omega⟩
    have h2 := dig_hex upper ⟨(c % 16).toNat, by omega⟩
    intro x hx
    simp only [List.mem_cons, List.not_mem_nil, or_false] at hx
    rcases hx with rfl | rfl | rfl
    · omega
    · exact h1.2.2
    · exact h2.2.2
  · intro x hx
    simp only [List.mem_cons, List.not_mem_nil, or_false] at hx
    subst hx; exact h
theorem encL_bd (all upper : Bool) (l : List Int) (h : ∀ c ∈ l, 0 ≤ c ∧ c ≤ 255) : ∀ x ∈ encL all upper l, 0 ≤ x ∧ x ≤ 255 := by
  intro x hx
  obtain ⟨c, hc, hx⟩ := List.mem_flatMap.1 hx
  exact encB_bd all upper c (h c hc) x hx

end Go.Proofs.Qxb6604321a
