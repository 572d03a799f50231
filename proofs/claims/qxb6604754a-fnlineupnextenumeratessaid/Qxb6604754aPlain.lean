import Derived.Test.Qxb6604754aSum
/-
  The plain law of the staircases: what the tree of staircases holds, and how a search in it goes.
-/
namespace Go.Proofs.Qxb6604754a
open Ieee

abbrev Job := Int × Nat
abbrev Slt := Int × Job
abbrev D : Format := Ieee.double
theorem hD : 1 ≤ D.exponentBits := by decide
def dom (w : Nat) : Prop := nn D w ∧ 0 ≤ ev D w
def E (j : Job) : Int := ev D j.2
def lexle (a b : Job) : Prop := a.1 < b.1 ∨ (a.1 = b.1 ∧ E a ≤ E b)
def less (a b : Job) : Bool := decide (a.1 < b.1) || (a.1 == b.1 && flt D a.2 b.2)
theorem less_false {a b : Job} (ha : dom a.2) (hb : dom b.2) (h : less a b = false) : lexle b a := by
  have := flt_iff D hD a.2 b.2
  unfold less at h
  unfold lexle E
  by_cases h1 : a.1 < b.1
  · simp [h1] at h
  · by_cases h2 : a.1 = b.1
    · simp [h2] at h
      rw [h] at this
      have h3 : ¬ ev D a.2 < ev D b.2 := fun c => by simpa using this.2 ⟨ha.1, hb.1, c⟩
      right; omega
    · left; omega
theorem less_true {a b : Job} (h : less a b = true) : lexle a b := by
  have := flt_iff D hD a.2 b.2
  unfold less at h
  unfold lexle E
  by_cases h1 : a.1 < b.1
  · left; exact h1
  · simp [h1] at h
    right
    exact ⟨h.1, by have := (this.1 h.2).2.2; omega⟩
theorem lexle_trans {a b c : Job} (h1 : lexle a b) (h2 : lexle b c) : lexle a c := by
  unfold lexle at *; omega

def Sorted (L : List Job) : Prop := L.Pairwise lexle
structure Stair (J : Job → Prop) (S : List Job) : Prop where
  mem : ∀ s ∈ S, J s
  cov : ∀ j, J j → ∃ s ∈ S, s.1 ≤ j.1 ∧ E s ≤ E j
  ord : S.Pairwise (fun a b => a.1 < b.1 ∧ E b < E a)
theorem Stair.sorted {J : Job → Prop} {S : List Job} (h : Stair J S) : Sorted S :=
  List.pairwise_iff_getElem.2 fun i j hi hj hij => .inl (List.pairwise_iff_getElem.1 h.ord i j hi hj hij).1
theorem Stair.congr {J K : Job → Prop} {S : List Job} (h : Stair J S) (e : ∀ j, J j ↔ K j) : Stair K S :=
  ⟨fun s hs => (e s).1 (h.mem s hs), fun j hj => h.cov j ((e j).2 hj), h.ord⟩

/-! ### the sweep -/
structure SInv (L : List Job) (i : Nat) (out : List Job) : Prop where
  mem : ∀ s ∈ out, s ∈ L.take i
  cov : ∀ j ∈ L.take i, ∃ s ∈ out, s.1 ≤ j.1 ∧ E s ≤ E j
  ord : out.Pairwise (fun a b => a.1 < b.1 ∧ E b < E a)
theorem SInv.start (L : List Job) : SInv L 0 [] := ⟨by simp, by simp, by simp⟩
theorem mem_take_succ {L : List Job} {i : Nat} {x : Job} (hx : L[i]? = some x) (j : Job) : j ∈ L.take (i + 1) ↔ j ∈ L.take i ∨ j = x := by
  rw [List.take_add_one, hx]; simp
theorem sorted_take {L : List Job} (hs : Sorted L) {i : Nat} {x : Job} (hx : L[i]? = some x) {s : Job} (h : s ∈ L.take i) : lexle s x := by
  obtain ⟨k, hk, e⟩ := List.mem_iff_getElem.1 h
  obtain ⟨hi, e2⟩ := List.getElem?_eq_some_iff.1 hx
  have hk' : k < i := by simp at hk; omega
  have := List.pairwise_iff_getElem.1 hs k i (by omega) hi hk'
  rw [e2] at this
  rw [List.getElem_take] at e
  rwa [e] at this
theorem SInv.take {L : List Job} {i : Nat} {out : List Job} {x : Job} (h : SInv L i out) (hs : Sorted L) (hx : L[i]? = some x)
    (hl : ∀ s ∈ out, E x < E s) : SInv L (i + 1) (out ++ [x]) := by
  refine ⟨?_, ?_, ?_⟩
  · intro s hs'
    rw [mem_take_succ hx]
    rcases List.mem_append.1 hs' with h1 | h1
    · exact .inl (h.mem s h1)
    · exact .inr (by simpa using h1)
  · intro j hj
    rcases (mem_take_succ hx j).1 hj with h1 | h1
    · obtain ⟨s, h2, h3⟩ := h.cov j h1
      exact ⟨s, List.mem_append_left _ h2, h3⟩
    · exact ⟨x, by simp, by rw [h1]; exact ⟨Int.le_refl _, Int.le_refl _⟩⟩
  · rw [List.pairwise_append]
    refine ⟨h.ord, by simp, ?_⟩
    intro a ha b hb
    have : b = x := by simpa using hb
    subst this
    have h1 := sorted_take hs hx (h.mem a ha)
    have h2 := hl a ha
    unfold lexle at h1
    refine ⟨?_, h2⟩
    omega
theorem SInv.skip {L : List Job} {i : Nat} {out : List Job} {x : Job} (h : SInv L i out) (hs : Sorted L) (hx : L[i]? = some x)
    (hl : ∃ s ∈ out, E s ≤ E x) : SInv L (i + 1) out := by
  refine ⟨?_, ?_, h.ord⟩
  · intro s hs'
    rw [mem_take_succ hx]
    exact .inl (h.mem s hs')
  · intro j hj
    rcases (mem_take_succ hx j).1 hj with h1 | h1
    · exact h.cov j h1
    · subst h1
      obtain ⟨s, h2, h3⟩ := hl
      have h4 := sorted_take hs hx (h.mem s h2)
      refine ⟨s, h2, ?_, h3⟩
      unfold lexle at h4
      omega
theorem last_le {out : List Job} (h : out.Pairwise (fun a b => a.1 < b.1 ∧ E b < E a)) {l : Job} (hl : out[out.length - 1]? = some l) : ∀ s ∈ out, E l ≤ E s := by
  intro s hs
  obtain ⟨k, hk, e⟩ := List.mem_iff_getElem.1 hs
  obtain ⟨hi, e2⟩ := List.getElem?_eq_some_iff.1 hl
  by_cases c : k = out.length - 1
  · subst c
    rw [e2] at e
    rw [e]; exact Int.le_refl _
  · have := List.pairwise_iff_getElem.1 h k (out.length - 1) hk hi (by omega)
    rw [e, e2] at this
    exact Int.le_of_lt this.2
/-- a round of the sweep -/
theorem SInv.round {L : List Job} {i : Nat} {out : List Job} {x : Job} (h : SInv L i out) (hs : Sorted L) (hd : ∀ j ∈ L, dom j.2) (hx : L[i]? = some x) :
    (out.length = 0 → SInv L (i + 1) (out ++ [x])) ∧ (∀ l, out[out.length - 1]? = some l → flt D x.2 l.2 = true → SInv L (i + 1) (out ++ [x])) ∧
      (∀ l, out[out.length - 1]? = some l → flt D x.2 l.2 = false → SInv L (i + 1) out) := by
  refine ⟨?_, ?_, ?_⟩
  · intro h0
    have : out = [] := List.length_eq_zero_iff.1 h0
    exact h.take hs hx (by rw [this]; simp)
  · intro l hl hf
    have h1 := ((flt_iff D hD _ _).1 hf).2.2
    exact h.take hs hx fun s hs' => by
      have := last_le h.ord hl s hs'
      unfold E at *
      omega
  · intro l hl hf
    have hm : l ∈ out := List.mem_of_getElem? hl
    have d1 : dom l.2 := hd l (List.mem_of_mem_take (h.mem l hm))
    have d2 : dom x.2 := hd x (List.mem_of_getElem? hx)
    refine h.skip hs hx ⟨l, hm, ?_⟩
    have := flt_iff D hD x.2 l.2
    rw [hf] at this
    have h3 : ¬ ev D x.2 < ev D l.2 := fun c => by simpa using this.2 ⟨d2.1, d1.1, c⟩
    unfold E
    omega
theorem SInv.done {L : List Job} {i : Nat} {out : List Job} (h : SInv L i out) (hi : L.length ≤ i) : Stair (· ∈ L) out := by
  have e : L.take i = L := List.take_of_length_le hi
  exact ⟨fun s hs => e ▸ h.mem s hs, fun j hj => h.cov j (by rw [e]; exact hj), h.ord⟩

/-! ### the merge -/
structure MInv (A B : List Job) (i j : Nat) (ms : List Job) : Prop where
  mem : ∀ s, s ∈ ms ↔ s ∈ A.take i ∨ s ∈ B.take j
  srt : Sorted ms
  fwd : ∀ s ∈ ms, (∀ y ∈ A.drop i, lexle s y) ∧ (∀ y ∈ B.drop j, lexle s y)
theorem MInv.start (A B : List Job) : MInv A B 0 0 [] := ⟨by simp, List.Pairwise.nil, by simp⟩
theorem sorted_drop {L : List Job} (hs : Sorted L) {i : Nat} {x : Job} (hx : L[i]? = some x) {s : Job} (h : s ∈ L.drop (i + 1)) : lexle x s := by
  obtain ⟨k, hk, e⟩ := List.mem_iff_getElem.1 h
  obtain ⟨hi, e2⟩ := List.getElem?_eq_some_iff.1 hx
  have hk' : i + 1 + k < L.length := by simp at hk; omega
  have := List.pairwise_iff_getElem.1 hs i (i + 1 + k) hi hk' (by omega)
  rw [e2] at this
  rw [List.getElem_drop] at e
  rwa [e] at this
theorem drop_cons {L : List Job} {i : Nat} {x : Job} (hx : L[i]? = some x) : L.drop i = x :: L.drop (i + 1) := by
  obtain ⟨hi, e2⟩ := List.getElem?_eq_some_iff.1 hx
  rw [List.drop_eq_getElem_cons hi, e2]
theorem MInv.symm {A B : List Job} {i j : Nat} {ms : List Job} (h : MInv A B i j ms) : MInv B A j i ms :=
  ⟨fun s => (h.mem s).trans Or.comm, h.srt, fun s hs => (h.fwd s hs).symm⟩
theorem MInv.takeA {A B : List Job} {i j : Nat} {ms : List Job} {x : Job} (h : MInv A B i j ms) (hA : Sorted A) (hB : Sorted B) (hx : A[i]? = some x)
    (hb : ∀ y, B[j]? = some y → lexle x y) : MInv A B (i + 1) j (ms ++ [x]) := by
  have hxB : ∀ y ∈ B.drop j, lexle x y := by
    intro y hy
    cases hj : B[j]? with
    | none => rw [List.drop_eq_nil_of_le (List.getElem?_eq_none_iff.1 hj)] at hy; simp at hy
    | some z =>
      rw [drop_cons hj] at hy
      rcases List.mem_cons.1 hy with h1 | h1
      · subst h1; exact hb _ hj
      · exact lexle_trans (hb z hj) (sorted_drop hB hj h1)
  refine ⟨?_, ?_, ?_⟩
  · intro s
    rw [mem_take_succ hx, List.mem_append, h.mem s]
    simp
    constructor
    · rintro ((h1 | h1) | h1)
      · exact .inl (.inl h1)
      · exact .inr h1
      · exact .inl (.inr h1)
    · rintro ((h1 | h1) | h1)
      · exact .inl (.inl h1)
      · exact .inr h1
      · exact .inl (.inr h1)
  · unfold Sorted
    rw [List.pairwise_append]
    refine ⟨h.srt, by simp, ?_⟩
    intro a ha b hb'
    have : b = x := by simpa using hb'
    subst this
    exact (h.fwd a ha).1 b (by rw [drop_cons hx]; simp)
  · intro s hs
    rcases List.mem_append.1 hs with h1 | h1
    · refine ⟨fun y hy => (h.fwd s h1).1 y ?_, (h.fwd s h1).2⟩
      rw [drop_cons hx]; exact List.mem_cons_of_mem _ hy
    · have : s = x := by simpa using h1
      subst this
      exact ⟨fun y hy => sorted_drop hA hx hy, hxB⟩
theorem MInv.takeB {A B : List Job} {i j : Nat} {ms : List Job} {x : Job} (h : MInv A B i j ms) (hA : Sorted A) (hB : Sorted B) (hx : B[j]? = some x)
    (hb : ∀ y, A[i]? = some y → lexle x y) : MInv A B i (j + 1) (ms ++ [x]) := (h.symm.takeA hB hA hx hb).symm
theorem MInv.done {A B : List Job} {i j : Nat} {ms : List Job} (h : MInv A B i j ms) (hi : A.length ≤ i) (hj : B.length ≤ j) :
    Sorted ms ∧ ∀ s, s ∈ ms ↔ s ∈ A ∨ s ∈ B := by
  refine ⟨h.srt, fun s => ?_⟩
  have := h.mem s
  rwa [List.take_of_length_le hi, List.take_of_length_le hj] at this
theorem Stair.join {J K : Job → Prop} {A B ms S : List Job} (hA : Stair J A) (hB : Stair K B) (hm : ∀ s, s ∈ ms ↔ s ∈ A ∨ s ∈ B) (hS : Stair (· ∈ ms) S) :
    Stair (fun j => J j ∨ K j) S := by
  refine ⟨?_, ?_, hS.ord⟩
  · intro s hs
    rcases (hm s).1 (hS.mem s hs) with h | h
    · exact .inl (hA.mem s h)
    · exact .inr (hB.mem s h)
  · intro j hj
    have : ∃ a ∈ ms, a.1 ≤ j.1 ∧ E a ≤ E j := by
      rcases hj with h | h
      · obtain ⟨a, h1, h2⟩ := hA.cov j h; exact ⟨a, (hm a).2 (.inl h1), h2⟩
      · obtain ⟨a, h1, h2⟩ := hB.cov j h; exact ⟨a, (hm a).2 (.inr h1), h2⟩
    obtain ⟨a, h1, h2, h3⟩ := this
    obtain ⟨s, h4, h5, h6⟩ := hS.cov a h1
    exact ⟨s, h4, by omega, by omega⟩

/-! ### the bound -/
structure Bd where
  size : Int
  longest : Nat
  now : Nat
  fin : Nat
def admW (b : Bd) (w : Nat) : Bool := fle D w b.longest && (match D.add b.now w with | some r => fle D r b.fin | none => false)
def ad (b : Bd) (j : Job) : Bool := decide (j.1 ≤ b.size) && admW b j.2
theorem admW_mono {b : Bd} {e1 e2 : Nat} (h1 : dom e1) (h2 : dom e2) (h : ev D e1 ≤ ev D e2) (ha : admW b e2 = true) : admW b e1 = true := by
  unfold admW at *
  rw [Bool.and_eq_true] at *
  obtain ⟨a1, a2⟩ := ha
  obtain ⟨-, l2, l3⟩ := (fle_iff D hD _ _).1 a1
  refine ⟨(fle_iff D hD _ _).2 ⟨h1.1, l2, by omega⟩, ?_⟩
  cases hr : D.add b.now e2 with
  | none => rw [hr] at a2; cases a2
  | some r2 =>
    rw [hr] at a2
    obtain ⟨r1, g1, g2⟩ := add_mono D hD b.now e1 e2 b.fin r2 h1.1 h2.1 h1.2 h hr a2
    rw [g1]; exact g2

/-! ### the search of a staircase -/
structure UInv (S : List Job) (size : Int) (lo hi : Nat) : Prop where
  le : lo ≤ hi
  len : hi ≤ S.length
  low : ∀ (i : Nat) s, S[i]? = some s → i < lo → s.1 ≤ size
  high : ∀ (i : Nat) s, S[i]? = some s → hi ≤ i → size < s.1
theorem UInv.start (S : List Job) (size : Int) : UInv S size 0 S.length :=
  ⟨by omega, by omega, fun _ _ _ h => by omega, fun i s h hi => by have := (List.getElem?_eq_some_iff.1 h).1; omega⟩
theorem ord_at {S : List Job} (h : S.Pairwise (fun a b => a.1 < b.1 ∧ E b < E a)) {i k : Nat} {s t : Job} (hi : S[i]? = some s) (hk : S[k]? = some t) (hik : i < k) : s.1 < t.1 ∧ E t < E s := by
  obtain ⟨a, e1⟩ := List.getElem?_eq_some_iff.1 hi
  obtain ⟨b, e2⟩ := List.getElem?_eq_some_iff.1 hk
  have := List.pairwise_iff_getElem.1 h i k a b hik
  rwa [e1, e2] at this
theorem UInv.up {S : List Job} {size : Int} {lo hi m : Nat} {s : Job} (h : UInv S size lo hi) (ho : S.Pairwise (fun a b => a.1 < b.1 ∧ E b < E a))
    (hm : m < hi) (hs : S[m]? = some s) (hle : s.1 ≤ size) : UInv S size (m + 1) hi := by
  refine ⟨by omega, h.len, ?_, h.high⟩
  intro i t ht hi'
  by_cases c : i = m
  · subst c; rw [hs] at ht; cases ht; exact hle
  · have := (ord_at ho ht hs (by omega)).1
    omega
theorem UInv.down {S : List Job} {size : Int} {lo hi m : Nat} {s : Job} (h : UInv S size lo hi) (ho : S.Pairwise (fun a b => a.1 < b.1 ∧ E b < E a))
    (hm : lo ≤ m) (hm' : m < hi) (hs : S[m]? = some s) (hle : size < s.1) : UInv S size lo m := by
  have hl := h.len
  refine ⟨hm, by omega, h.low, ?_⟩
  intro i t ht hi'
  by_cases c : i = m
  · subst c; rw [hs] at ht; cases ht; exact hle
  · have := (ord_at ho hs ht (by omega)).1
    omega
def Held (J : Job → Prop) (b : Bd) : Prop := ∃ j, J j ∧ ad b j = true
theorem held_none {J : Job → Prop} {S : List Job} {b : Bd} (hS : Stair J S) (hu : UInv S b.size 0 0) : ¬ Held J b := by
  rintro ⟨j, hj, ha⟩
  obtain ⟨s, h1, h2, h3⟩ := hS.cov j hj
  obtain ⟨i, hi⟩ := List.mem_iff_getElem?.1 h1
  have h4 := hu.high i s hi (by omega)
  unfold ad at ha
  simp at ha
  omega
theorem held_at {J : Job → Prop} {S : List Job} {b : Bd} {k : Nat} {s : Job} (hS : Stair J S) (hd : ∀ j, J j → dom j.2) (hu : UInv S b.size (k + 1) (k + 1)) (hs : S[k]? = some s) :
    ad b s = true ↔ Held J b := by
  refine ⟨fun h => ⟨s, hS.mem s (List.mem_of_getElem? hs), h⟩, ?_⟩
  rintro ⟨j, hj, ha⟩
  obtain ⟨t, h1, h2, h3⟩ := hS.cov j hj
  obtain ⟨i, hi⟩ := List.mem_iff_getElem?.1 h1
  unfold ad at ha ⊢
  rw [Bool.and_eq_true] at *
  obtain ⟨a1, a2⟩ := ha
  have a1' : j.1 ≤ b.size := by simpa using a1
  have hik : i ≤ k := by
    refine Nat.le_of_not_lt fun c => ?_
    have := hu.high i t hi (by omega)
    omega
  have hEs : E s ≤ E t := by
    by_cases c : i = k
    · subst c; rw [hs] at hi; cases hi; exact Int.le_refl _
    · exact Int.le_of_lt (ord_at hS.ord hi hs (by omega)).2
  refine ⟨by simpa using hu.low k s hs (by omega), ?_⟩
  exact admW_mono (hd s (hS.mem s (List.mem_of_getElem? hs))) (hd j hj) (by unfold E at *; omega) a2

/-! ### positions -/
def Jn (sl : List Slt) (lo hi : Nat) (j : Job) : Prop := ∃ p x, lo ≤ p ∧ p < hi ∧ sl[p]? = some x ∧ 0 ≤ x.1 ∧ x.2 = j
def Dm (sl : List Slt) : Prop := ∀ (p : Nat) x, sl[p]? = some x → 0 ≤ x.1 → dom x.2.2
theorem Jn.dom {sl : List Slt} (h : Dm sl) {lo hi : Nat} {j : Job} (hj : Jn sl lo hi j) : dom j.2 := by
  obtain ⟨p, x, -, -, h1, h2, rfl⟩ := hj
  exact h p x h1 h2
theorem Jn.split (sl : List Slt) (lo mid hi : Nat) (h1 : lo ≤ mid) (h2 : mid ≤ hi) (j : Job) : (Jn sl lo mid j ∨ Jn sl mid hi j) ↔ Jn sl lo hi j := by
  constructor
  · rintro (⟨p, x, a, b, c⟩ | ⟨p, x, a, b, c⟩)
    · exact ⟨p, x, a, by omega, c⟩
    · exact ⟨p, x, by omega, b, c⟩
  · rintro ⟨p, x, a, b, c⟩
    by_cases h : p < mid
    · exact .inl ⟨p, x, a, h, c⟩
    · exact .inr ⟨p, x, by omega, b, c⟩
def adP (b : Bd) (sl : List Slt) (p : Nat) : Prop := ∃ x, sl[p]? = some x ∧ 0 ≤ x.1 ∧ ad b x.2 = true
theorem held_iff (b : Bd) (sl : List Slt) (lo hi : Nat) : Held (Jn sl lo hi) b ↔ ∃ p, lo ≤ p ∧ p < hi ∧ adP b sl p := by
  constructor
  · rintro ⟨j, ⟨p, x, h1, h2, h3, h4, rfl⟩, h5⟩
    exact ⟨p, h1, h2, x, h3, h4, h5⟩
  · rintro ⟨p, h1, h2, x, h3, h4, h5⟩
    exact ⟨x.2, ⟨p, x, h1, h2, h3, h4, rfl⟩, h5⟩

/-! ### the tree -/
def lvl (g k : Nat) : Prop := 2 ^ g ≤ k ∧ k < 2 ^ (g + 1)
/-- where node k of level g starts, in a tree of depth d -/
def st (d g k : Nat) : Nat := 16 * ((k - 2 ^ g) * 2 ^ (d - g))
theorem st_leaf (d k : Nat) : st d d k = 16 * (k - 2 ^ d) := by unfold st; simp
theorem st_down (d g k : Nat) (hg : g < d) : st d (g + 1) (2 * k) = st d g k := by
  unfold st
  rw [Nat.pow_succ, show 2 * k - 2 ^ g * 2 = (k - 2 ^ g) * 2 by omega, show d - g = (d - (g + 1)) + 1 by omega, Nat.pow_succ, Nat.mul_assoc, Nat.mul_comm 2]
theorem st_mono (d g : Nat) {k l : Nat} (h : k ≤ l) : st d g k ≤ st d g l := by
  unfold st
  exact Nat.mul_le_mul_left _ (Nat.mul_le_mul_right _ (by omega))
theorem st_end (d g : Nat) (hg : g ≤ d) : st d g (2 ^ (g + 1)) = 16 * 2 ^ d := by
  unfold st
  rw [Nat.pow_succ, show 2 ^ g * 2 - 2 ^ g = 2 ^ g by omega, ← Nat.pow_add, show g + (d - g) = d by omega]
theorem st_lt (d g k : Nat) (h : lvl g k) : st d g k < st d g (k + 1) := by
  unfold st
  obtain ⟨h1, h2⟩ := h
  have := Nat.two_pow_pos (d - g)
  rw [show k + 1 - 2 ^ g = (k - 2 ^ g) + 1 by omega, Nat.add_mul]
  omega
def Node (sl : List Slt) (d : Nat) (k : Nat) (S : List Job) : Prop := ∀ g, g ≤ d → lvl g k → Stair (Jn sl (st d g k) (st d g (k + 1))) S
theorem lvl_uniq {g h k : Nat} (a : lvl g k) (b : lvl h k) : g = h := by
  unfold lvl at a b
  rcases Nat.lt_trichotomy g h with c | c | c
  · have := Nat.pow_le_pow_right (show 0 < 2 by omega) (show g + 1 ≤ h by omega)
    omega
  · exact c
  · have := Nat.pow_le_pow_right (show 0 < 2 by omega) (show h + 1 ≤ g by omega)
    omega
theorem lvl_leaf {d g k : Nat} (hg : g ≤ d) (h : lvl g k) (hk : 2 ^ d ≤ k) : g = d := by
  unfold lvl at h
  refine Nat.le_antisymm hg (Nat.le_of_not_lt fun c => ?_)
  have := Nat.pow_le_pow_right (show 0 < 2 by omega) (show g + 1 ≤ d by omega)
  omega
theorem lvl_inner {d g k : Nat} (hg : g ≤ d) (h : lvl g k) (hk : k < 2 ^ d) : g < d := by
  unfold lvl at h
  refine Nat.lt_of_le_of_ne hg fun c => ?_
  subst c
  omega
theorem lvl_down {g k : Nat} (h : lvl g k) : lvl (g + 1) (2 * k) ∧ lvl (g + 1) (2 * k + 1) := by
  unfold lvl at *
  simp only [Nat.pow_succ] at *
  omega
theorem lvl_up {g k : Nat} (h : lvl g (2 * k)) (hk : 0 < k) : ∃ g', g = g' + 1 ∧ lvl g' k := by
  cases g with
  | zero => unfold lvl at h; simp at h; omega
  | succ g' =>
    refine ⟨g', rfl, ?_⟩
    unfold lvl at *
    simp only [Nat.pow_succ] at *
    omega
/-- a node made of its two children -/
theorem Node.join {sl : List Slt} {d k : Nat} {A B ms S : List Job} (hk : k < 2 ^ d) (hA : Node sl d (2 * k) A) (hB : Node sl d (2 * k + 1) B)
    (hm : ∀ s, s ∈ ms ↔ s ∈ A ∨ s ∈ B) (hS : Stair (· ∈ ms) S) : Node sl d k S := by
  intro g hg hl
  have hg' := lvl_inner hg hl hk
  have h1 := hA (g + 1) (by omega) (lvl_down hl).1
  have h2 := hB (g + 1) (by omega) (lvl_down hl).2
  refine (Stair.join h1 h2 hm hS).congr fun j => ?_
  have e1 := st_down d g k hg'
  have e2 := st_down d g (k + 1) hg'
  rw [show 2 * (k + 1) = 2 * k + 1 + 1 by omega] at e2
  rw [e1, e2]
  have m1 := st_mono d (g + 1) (show 2 * k ≤ 2 * k + 1 by omega)
  have m2 := st_mono d (g + 1) (show 2 * k + 1 ≤ 2 * k + 1 + 1 by omega)
  exact Jn.split sl _ _ _ (by omega) (by omega) j
theorem Node.leaf {sl : List Slt} {d b : Nat} {S : List Job} (hS : Stair (Jn sl (16 * b) (16 * b + 16)) S) : Node sl d (2 ^ d + b) S := by
  intro g hg hl
  have := lvl_leaf hg hl (by omega)
  subst this
  rw [st_leaf, st_leaf, show 2 ^ g + b - 2 ^ g = b by omega, show 2 ^ g + b + 1 - 2 ^ g = b + 1 by omega]
  exact hS
theorem Node.held {sl : List Slt} {d g k : Nat} {S : List Job} (hN : Node sl d k S) (hg : g ≤ d) (hl : lvl g k) : Stair (Jn sl (st d g k) (st d g (k + 1))) S := hN g hg hl

/-! ### the answer -/
/-- the first admitted position above pos, or -1 -/
def IsNext (b : Bd) (sl : List Slt) (pos r : Int) : Prop :=
  (r = -1 ∧ ∀ p : Nat, pos < p → ¬ adP b sl p) ∨ (∃ q : Nat, r = q ∧ pos < q ∧ adP b sl q ∧ ∀ p : Nat, pos < p → p < q → ¬ adP b sl p)
theorem IsNext.uniq {b : Bd} {sl : List Slt} {pos r s : Int} (h1 : IsNext b sl pos r) (h2 : IsNext b sl pos s) : r = s := by
  rcases h1 with ⟨a1, a2⟩ | ⟨q, a1, a2, a3, a4⟩
  · rcases h2 with ⟨b1, b2⟩ | ⟨q', b1, b2, b3, b4⟩
    · omega
    · exact absurd b3 (a2 q' b2)
  · rcases h2 with ⟨b1, b2⟩ | ⟨q', b1, b2, b3, b4⟩
    · exact absurd a3 (b2 q a2)
    · rcases Nat.lt_trichotomy q q' with c | c | c
      · exact absurd a3 (b4 q a2 c)
      · omega
      · exact absurd b3 (a4 q' b2 c)
theorem adP_append (b : Bd) (a c : List Slt) (p : Nat) : adP b (a ++ c) p ↔ (p < a.length ∧ adP b a p) ∨ (a.length ≤ p ∧ adP b c (p - a.length)) := by
  unfold adP
  by_cases h : p < a.length
  · rw [List.getElem?_append_left h]
    constructor
    · exact fun h' => .inl ⟨h, h'⟩
    · rintro (⟨-, h'⟩ | ⟨h', -⟩)
      · exact h'
      · omega
  · rw [List.getElem?_append_right (by omega)]
    constructor
    · exact fun h' => .inr ⟨by omega, h'⟩
    · rintro (⟨h', -⟩ | ⟨-, h'⟩)
      · omega
      · exact h'
theorem pow_two_test : ∀ g < 9, ∀ k ≤ 512, 2 ^ g < k → k ≤ 2 ^ (g + 1) → (k &&& (k - 1) = 0 ↔ k = 2 ^ (g + 1)) := by decide +kernel

end Go.Proofs.Qxb6604754a
