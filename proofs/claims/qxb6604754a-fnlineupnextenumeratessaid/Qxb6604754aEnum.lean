import Derived.Test.Qxb6604754aLine
namespace Go.Proofs.Qxb6604754a
open Go.RowKit

/-- what the linear scan has found ahead of p -/
def Scn (bd : Bd) (sl : List Slt) (pos : Int) (p : Nat) (r : Int) : Prop :=
  (r = -1 ∧ ∀ q : Nat, q < p → pos < q → ¬ adP bd sl q) ∨ (∃ q : Nat, r = q ∧ IsNext bd sl pos q)
theorem adP_at {bd : Bd} {sl : List Slt} {p : Nat} {x : Slt} (hx : sl[p]? = some x) : adP bd sl p ↔ (decide (0 ≤ x.1) && ad bd x.2) = true := by
  unfold adP
  rw [hx]
  simp
theorem Scn.start (bd : Bd) (sl : List Slt) (pos : Int) : Scn bd sl pos 0 (-1) := .inl ⟨rfl, fun q h => by omega⟩
theorem Scn.low {bd : Bd} {sl : List Slt} {pos : Int} {p : Nat} (h : Scn bd sl pos p (-1)) (hp : ¬ pos < p) : Scn bd sl pos (p + 1) (-1) := by
  rcases h with ⟨-, h⟩ | ⟨q, h, -⟩
  · refine .inl ⟨rfl, fun q h1 h2 => ?_⟩
    by_cases e : q = p
    · subst e; exact absurd h2 hp
    · exact h q (by omega) h2
  · omega
theorem Scn.miss {bd : Bd} {sl : List Slt} {pos : Int} {p : Nat} (h : Scn bd sl pos p (-1)) {x : Slt} (hx : sl[p]? = some x) (hb : (decide (0 ≤ x.1) && ad bd x.2) = false) : Scn bd sl pos (p + 1) (-1) := by
  rcases h with ⟨-, h⟩ | ⟨q, h, -⟩
  · refine .inl ⟨rfl, fun q h1 h2 => ?_⟩
    by_cases e : q = p
    · subst e; rw [adP_at hx, hb]; simp
    · exact h q (by omega) h2
  · omega
theorem Scn.hit {bd : Bd} {sl : List Slt} {pos : Int} {p : Nat} (h : Scn bd sl pos p (-1)) {x : Slt} (hx : sl[p]? = some x) (hp : pos < p) (hb : (decide (0 ≤ x.1) && ad bd x.2) = true) (p' : Nat) : Scn bd sl pos p' p := by
  rcases h with ⟨-, h⟩ | ⟨q, h, -⟩
  · exact .inr ⟨p, rfl, .inr ⟨p, rfl, hp, (adP_at hx).2 hb, fun q h1 h2 => h q h2 h1⟩⟩
  · omega
theorem Scn.sign {bd : Bd} {sl : List Slt} {pos : Int} {p : Nat} {r : Int} (h : Scn bd sl pos p r) : r = -1 ∨ ∃ q : Nat, r = q ∧ ∀ p', Scn bd sl pos p' r := by
  rcases h with ⟨h, -⟩ | ⟨q, rfl, h⟩
  · exact .inl h
  · exact .inr ⟨q, rfl, fun _ => .inr ⟨q, rfl, h⟩⟩
theorem Scn.fin {bd : Bd} {sl : List Slt} {pos : Int} {p : Nat} {r : Int} (h : Scn bd sl pos p r) (hp : sl.length ≤ p) : IsNext bd sl pos r := by
  rcases h with ⟨rfl, h⟩ | ⟨q, rfl, h⟩
  · refine .inl ⟨rfl, fun q h1 h2 => ?_⟩
    have := adP_lt h2
    exact h q (by omega) h1 h2
  · exact h

/-- the admitted positions ahead of p, in order -/
def AdL (bd : Bd) (sl : List Slt) (p : Nat) (L : List Nat) : Prop := L.Pairwise (· < ·) ∧ ∀ q, q ∈ L ↔ q < p ∧ adP bd sl q
theorem AdL.start (bd : Bd) (sl : List Slt) : AdL bd sl 0 [] := ⟨List.Pairwise.nil, fun q => by simp⟩
theorem AdL.miss {bd : Bd} {sl : List Slt} {p : Nat} {L : List Nat} (h : AdL bd sl p L) {x : Slt} (hx : sl[p]? = some x) (hb : (decide (0 ≤ x.1) && ad bd x.2) = false) : AdL bd sl (p + 1) L := by
  refine ⟨h.1, fun q => ?_⟩
  rw [h.2 q]
  constructor
  · rintro ⟨h1, h2⟩; exact ⟨by omega, h2⟩
  · rintro ⟨h1, h2⟩
    refine ⟨Nat.lt_of_le_of_ne (by omega) fun e => ?_, h2⟩
    subst e
    rw [adP_at hx, hb] at h2
    cases h2
theorem AdL.hit {bd : Bd} {sl : List Slt} {p : Nat} {L : List Nat} (h : AdL bd sl p L) {x : Slt} (hx : sl[p]? = some x) (hb : (decide (0 ≤ x.1) && ad bd x.2) = true) : AdL bd sl (p + 1) (L ++ [p]) := by
  refine ⟨?_, fun q => ?_⟩
  · rw [List.pairwise_append]
    refine ⟨h.1, by simp, fun a ha b hb => ?_⟩
    simp at hb
    subst hb
    exact ((h.2 a).1 ha).1
  · rw [List.mem_append, h.2 q, List.mem_singleton]
    constructor
    · rintro (⟨h1, h2⟩ | rfl)
      · exact ⟨by omega, h2⟩
      · exact ⟨by omega, (adP_at hx).2 hb⟩
    · rintro ⟨h1, h2⟩
      by_cases e : q = p
      · exact .inr e
      · exact .inl ⟨by omega, h2⟩
/-- where the k-th call of next starts -/
def prev (L : List Nat) : Nat → Int
  | 0 => -1
  | k + 1 => (L[k]?.getD 0 : Nat)
theorem prev_at {L : List Nat} {k v : Nat} (h : L[k]? = some v) : prev L (k + 1) = v := by
  simp [prev, h]
theorem prev_lt {L : List Nat} (hL : L.Pairwise (· < ·)) {k j v : Nat} (hv : L[j]? = some v) (hk : k ≤ L.length) : prev L k < (v : Int) ↔ k ≤ j := by
  have hj := (List.getElem?_eq_some_iff.1 hv).1
  cases k with
  | zero => simp [prev]; omega
  | succ k =>
    have hu := List.getElem?_eq_getElem (show k < L.length by omega)
    rw [prev_at hu]
    have hp := List.pairwise_iff_getElem.1 hL
    obtain ⟨_, ev⟩ := List.getElem?_eq_some_iff.1 hv
    constructor
    · intro h
      refine Nat.lt_of_not_le fun hc => ?_
      by_cases e : j = k
      · subst e; rw [ev] at h; omega
      · have := hp j k (by omega) (by omega) (by omega)
        rw [ev] at this
        omega
    · intro h
      have := hp k j (by omega) (by omega) (by omega)
      rw [ev] at this
      omega
theorem AdL.mem_at {bd : Bd} {sl : List Slt} {L : List Nat} (h : AdL bd sl sl.length L) {q : Nat} (hq : adP bd sl q) : ∃ j : Nat, L[j]? = some q :=
  List.mem_iff_getElem?.1 ((h.2 q).2 ⟨adP_lt hq, hq⟩)
theorem AdL.next {bd : Bd} {sl : List Slt} {L : List Nat} (h : AdL bd sl sl.length L) {k v : Nat} (hv : L[k]? = some v) : IsNext bd sl (prev L k) v := by
  have hk := (List.getElem?_eq_some_iff.1 hv).1
  refine .inr ⟨v, rfl, (prev_lt h.1 hv (by omega)).2 (Nat.le_refl _), ((h.2 v).1 (List.mem_of_getElem? hv)).2, fun q h1 h2 h3 => ?_⟩
  obtain ⟨j, hj⟩ := h.mem_at h3
  have h4 := (prev_lt h.1 hj (by omega)).1 h1
  obtain ⟨a1, e1⟩ := List.getElem?_eq_some_iff.1 hj
  obtain ⟨a2, e2⟩ := List.getElem?_eq_some_iff.1 hv
  by_cases e : j = k
  · subst e; omega
  · have := List.pairwise_iff_getElem.1 h.1 k j a2 a1 (by omega)
    omega
theorem AdL.last {bd : Bd} {sl : List Slt} {L : List Nat} (h : AdL bd sl sl.length L) : IsNext bd sl (prev L L.length) (-1) := by
  refine .inl ⟨rfl, fun q h1 h3 => ?_⟩
  obtain ⟨j, hj⟩ := h.mem_at h3
  have h4 := (prev_lt h.1 hj (Nat.le_refl _)).1 h1
  have := (List.getElem?_eq_some_iff.1 hj).1
  omega
theorem AdL.bound {bd : Bd} {sl : List Slt} {L : List Nat} (h : AdL bd sl sl.length L) {k : Nat} (hk : k ≤ L.length) : -1 ≤ prev L k ∧ prev L k ≤ sl.length := by
  cases k with
  | zero => simp [prev]
  | succ k =>
    have hu := List.getElem?_eq_getElem (show k < L.length by omega)
    rw [prev_at hu]
    have := ((h.2 _).1 (List.mem_of_getElem? hu)).1
    omega
theorem AdL.len {bd : Bd} {sl : List Slt} {p : Nat} {L : List Nat} (h : AdL bd sl p L) : L.length ≤ p := by
  have h1 : L.Nodup := show L.Pairwise (· ≠ ·) from List.pairwise_iff_getElem.2 fun i j hi hj hij e => by
    have := List.pairwise_iff_getElem.1 h.1 i j hi hj hij
    omega
  have := nodup_len L (List.range p) h1 fun s hs => by
    have := ((h.2 s).1 hs).1
    simp
    exact this
  simpa using this

end Go.Proofs.Qxb6604754a
