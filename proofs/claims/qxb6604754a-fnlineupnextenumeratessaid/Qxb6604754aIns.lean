import Derived.Test.Qxb6604754aPh
namespace Go.Proofs.Qxb6604754a
open Go.RowKit

/-- the jobs of a bucket so far, sorted -/
def Bk (sl : List Slt) (lo p : Nat) (L : List Job) : Prop := Sorted L ∧ ∀ j, j ∈ L ↔ Jn sl lo p j
theorem Bk.start (sl : List Slt) (lo : Nat) : Bk sl lo lo [] := by
  refine ⟨List.Pairwise.nil, fun j => ⟨fun h => by simp at h, ?_⟩⟩
  rintro ⟨p, x, h1, h2, -⟩
  omega
theorem Jn.succ {sl : List Slt} {lo p : Nat} {x : Slt} (hlo : lo ≤ p) (hx : sl[p]? = some x) (j : Job) : Jn sl lo (p + 1) j ↔ Jn sl lo p j ∨ (0 ≤ x.1 ∧ x.2 = j) := by
  constructor
  · rintro ⟨q, y, h1, h2, h3, h4, h5⟩
    by_cases e : q = p
    · subst e
      rw [hx] at h3
      cases h3
      exact .inr ⟨h4, h5⟩
    · exact .inl ⟨q, y, h1, by omega, h3, h4, h5⟩
  · rintro (⟨q, y, h1, h2, h3⟩ | ⟨h1, h2⟩)
    · exact ⟨q, y, h1, by omega, h3⟩
    · exact ⟨p, x, hlo, by omega, hx, h1, h2⟩
theorem Bk.skip {sl : List Slt} {lo p : Nat} {L : List Job} (h : Bk sl lo p L) (hlo : lo ≤ p) {x : Slt} (hx : sl[p]? = some x) (hj : x.1 < 0) : Bk sl lo (p + 1) L :=
  ⟨h.1, fun j => by
    rw [h.2 j, Jn.succ hlo hx]
    constructor
    · exact .inl
    · rintro (h1 | ⟨h1, -⟩)
      · exact h1
      · omega⟩
theorem Bk.dom {sl : List Slt} (hd : Dm sl) {lo p : Nat} {L : List Job} (h : Bk sl lo p L) : ∀ j ∈ L, dom j.2 := fun j hj => ((h.2 j).1 hj).dom hd
theorem Bk.full {sl : List Slt} {lo p : Nat} {L S : List Job} (h : Bk sl lo p L) (hp : p = lo + 16 ∨ (sl.length ≤ p ∧ p ≤ lo + 16)) (hS : Stair (· ∈ L) S) : Stair (Jn sl lo (lo + 16)) S :=
  hS.congr fun j => by
    rw [h.2 j]
    rcases hp with rfl | ⟨h1, h2⟩
    · rfl
    · constructor
      · rintro ⟨q, y, a, b, c⟩
        exact ⟨q, y, a, by omega, c⟩
      · rintro ⟨q, y, a, b, c, e⟩
        have := (List.getElem?_eq_some_iff.1 c).1
        exact ⟨q, y, a, by omega, c, e⟩

/-- one job on its way to its place -/
structure Ins (L0 : List Job) (x : Job) (L : List Job) (i : Nat) : Prop where
  len : L.length = L0.length + 1
  mem : ∀ j, j ∈ L ↔ j ∈ L0 ∨ j = x
  ile : i < L.length
  srt : ∀ (p q : Nat) u v, p < q → p ≠ i → q ≠ i → L[p]? = some u → L[q]? = some v → lexle u v
  up : ∀ (q : Nat) u v, i < q → L[i]? = some u → L[q]? = some v → lexle u v
theorem Ins.start {L0 : List Job} (h : Sorted L0) (x : Job) : Ins L0 x (L0 ++ [x]) L0.length := by
  refine ⟨by simp, fun j => by simp, by simp, ?_, ?_⟩
  · intro p q u v h1 h2 h3 hu hv
    have hq := (List.getElem?_eq_some_iff.1 hv).1
    simp at hq
    have hq' : q < L0.length := by omega
    rw [List.getElem?_append_left (by omega)] at hu
    rw [List.getElem?_append_left hq'] at hv
    obtain ⟨a1, e1⟩ := List.getElem?_eq_some_iff.1 hu
    obtain ⟨a2, e2⟩ := List.getElem?_eq_some_iff.1 hv
    have := List.pairwise_iff_getElem.1 h p q a1 a2 h1
    rwa [e1, e2] at this
  · intro q u v h1 hu hv
    have hq := (List.getElem?_eq_some_iff.1 hv).1
    simp at hq
    omega
def swp (L : List Job) (i : Nat) (u v : Job) : List Job := (L.set (i + 1) v).set i u
theorem swp_at {L : List Job} {i : Nat} {u v : Job} (hi : i + 1 < L.length) (p : Nat) : (swp L i u v)[p]? = if p = i then some u else if p = i + 1 then some v else L[p]? := by
  unfold swp
  by_cases h1 : p = i
  · subst h1
    rw [if_pos rfl, List.getElem?_set_self (by simp; omega)]
  · rw [if_neg h1, List.getElem?_set_ne (by omega)]
    by_cases h2 : p = i + 1
    · subst h2
      rw [if_pos rfl, List.getElem?_set_self hi]
    · rw [if_neg h2, List.getElem?_set_ne (by omega)]
theorem Ins.swap {L0 : List Job} {x : Job} {L : List Job} {i : Nat} {u v : Job} (h : Ins L0 x L (i + 1)) (hu : L[i + 1]? = some u) (hv : L[i]? = some v) (hl : lexle u v) : Ins L0 x (swp L i u v) i := by
  have hi := (List.getElem?_eq_some_iff.1 hu).1
  have hlen : (swp L i u v).length = L.length := by simp [swp]
  refine ⟨by rw [hlen]; exact h.len, fun j => ?_, by rw [hlen]; omega, ?_, ?_⟩
  · rw [← h.mem j, List.mem_iff_getElem?, List.mem_iff_getElem?]
    constructor
    · rintro ⟨p, hp⟩
      rw [swp_at hi] at hp
      by_cases h1 : p = i
      · rw [if_pos h1] at hp; exact ⟨i + 1, by rw [hu]; exact hp⟩
      · rw [if_neg h1] at hp
        by_cases h2 : p = i + 1
        · rw [if_pos h2] at hp; exact ⟨i, by rw [hv]; exact hp⟩
        · rw [if_neg h2] at hp; exact ⟨p, hp⟩
    · rintro ⟨p, hp⟩
      by_cases h1 : p = i
      · subst h1
        rw [hv] at hp
        exact ⟨p + 1, by rw [swp_at hi, if_neg (by omega), if_pos rfl]; exact hp⟩
      · by_cases h2 : p = i + 1
        · subst h2
          rw [hu] at hp
          exact ⟨i, by rw [swp_at hi, if_pos rfl]; exact hp⟩
        · exact ⟨p, by rw [swp_at hi, if_neg h1, if_neg h2]; exact hp⟩
  · intro p q a b h1 h2 h3 ha hb
    rw [swp_at hi, if_neg h2] at ha
    rw [swp_at hi, if_neg h3] at hb
    by_cases e1 : p = i + 1
    · rw [if_pos e1] at ha
      rw [if_neg (by omega)] at hb
      cases ha
      exact h.srt i q v b (by omega) (by omega) (by omega) hv hb
    · rw [if_neg e1] at ha
      by_cases e2 : q = i + 1
      · rw [if_pos e2] at hb
        cases hb
        exact h.srt p i a v (by omega) e1 (by omega) ha hv
      · rw [if_neg e2] at hb
        exact h.srt p q a b h1 e1 e2 ha hb
  · intro q a b h1 ha hb
    rw [swp_at hi, if_pos rfl] at ha
    cases ha
    rw [swp_at hi, if_neg (by omega)] at hb
    by_cases e : q = i + 1
    · rw [if_pos e] at hb
      cases hb
      exact hl
    · rw [if_neg e] at hb
      exact h.up q u b (by omega) hu hb
theorem Ins.done {L0 : List Job} {x : Job} {L : List Job} {i : Nat} (h : Ins L0 x L i) (hi : i = 0 ∨ ∃ u v, L[i]? = some u ∧ L[i - 1]? = some v ∧ lexle v u) : Sorted L := by
  unfold Sorted
  rw [List.pairwise_iff_getElem]
  intro p q hp hq hpq
  have ep := List.getElem?_eq_getElem hp
  have eq := List.getElem?_eq_getElem hq
  by_cases e1 : p = i
  · subst e1
    exact h.up q _ _ hpq ep eq
  · by_cases e2 : q = i
    · subst e2
      rcases hi with h0 | ⟨u, v, hu, hv, hl⟩
      · omega
      · rw [eq] at hu
        cases hu
        by_cases e3 : p = q - 1
        · subst e3
          rw [ep] at hv
          cases hv
          exact hl
        · exact lexle_trans (h.srt p (q - 1) _ v (by omega) (by omega) (by omega) ep hv) hl
    · exact h.srt p q _ _ hpq e1 e2 ep eq
theorem Bk.ins {sl : List Slt} {lo p : Nat} {L L' : List Job} (h : Bk sl lo p L) (hlo : lo ≤ p) {x : Slt} (hx : sl[p]? = some x) (hj : 0 ≤ x.1) {i : Nat} (hI : Ins L x.2 L' i) (hS : Sorted L') : Bk sl lo (p + 1) L' :=
  ⟨hS, fun j => by
    rw [hI.mem j, h.2 j, Jn.succ hlo hx]
    constructor
    · rintro (h1 | rfl)
      · exact .inl h1
      · exact .inr ⟨hj, rfl⟩
    · rintro (h1 | ⟨-, rfl⟩)
      · exact .inl h1
      · exact .inr rfl⟩

/-! ### the swap in memory -/
theorem own_set {w : World} {base e n c g : Nat} {xs : List Value} (h : w.ownsRow base e 1 (.slice (some ⟨g, 0, none⟩) n c) n xs) (o : Nat) (v : Value) : (w.setCell ⟨g, o, none⟩ v).ownsRow base e 1 (.slice (some ⟨g, 0, none⟩) n c) n (xs.set o v) := by
  refine ⟨by simp [h.1], ?_⟩
  rcases h.2 with ⟨h', _⟩ | ⟨g', cap', cur, h', hb, hg, h1, h2, h3, h4⟩
  · simp at h'
  · simp at h'
    obtain ⟨rfl, rfl⟩ := h'
    refine .inr ⟨g, c, cur.setIfInBounds o v, rfl, hb, ?_, h1, h2, by simpa using h3, ?_⟩
    · simp [World.setCell, Array.getElem?_modify, hg]
    · rw [← h4]
      simp [List.take_set]
theorem own_other {w : World} {base e n g : Nat} {v' : Value} {xs : List Value} (h : w.ownsRow base e 1 v' n xs) (hg : v'.ownBlock ≠ some g) (o : Nat) (v : Value) : (w.setCell ⟨g, o, none⟩ v).ownsRow base e 1 v' n xs := by
  refine ⟨h.1, ?_⟩
  rcases h.2 with hn | ⟨g', cap', cur, rfl, hb, hgg, rest⟩
  · exact .inl hn
  · refine .inr ⟨g', cap', cur, rfl, hb, ?_, rest⟩
    rw [Below.heap_setCell _ _ _ _ (by simp [Value.ownBlock] at hg; simpa using hg)]
    exact hgg
theorem Two.swap {w wr : World} {g1 g2 c c' n i : Nat} {L : List Job} (h : Two w wr (some ⟨g1, 0, none⟩) c (some ⟨g2, 0, none⟩) c' n L) (u v : Job) :
    Two w ((((wr.setCell ⟨g1, i + 1, none⟩ (iv v)).setCell ⟨g1, i, none⟩ (iv u)).setCell ⟨g2, i + 1, none⟩ (fv v)).setCell ⟨g2, i, none⟩ (fv u)) (some ⟨g1, 0, none⟩) c (some ⟨g2, 0, none⟩) c' n (swp L i u v) := by
  have hne : g1 ≠ g2 := by
    intro e
    exact own_apart h.r1 h.r2 (by decide) g1 rfl (by rw [e]; rfl)
  have b1 := (h.r1.lt g1 rfl).1
  have b2 := (h.r2.lt g2 rfl).1
  refine ⟨Below.setCell (Below.setCell (Below.setCell (Below.setCell h.below b1 _) b1 _) b2 _) b2 _, by simp [swp, h.len], ?_, ?_⟩
  · have := own_other (own_other (own_set (own_set h.r1 (i + 1) (iv v)) i (iv u)) (g := g2) (by simp [Value.ownBlock]; exact hne) (i + 1) (fv v)) (g := g2) (by simp [Value.ownBlock]; exact hne) i (fv u)
    simpa [swp, List.map_set] using this
  · have := own_set (own_set (own_other (own_other h.r2 (g := g1) (by simp [Value.ownBlock]; exact fun e => hne e.symm) (i + 1) (iv v)) (g := g1) (by simp [Value.ownBlock]; exact fun e => hne e.symm) i (iv u)) (i + 1) (fv v)) i (fv u)
    simpa [swp, List.map_set] using this

end Go.Proofs.Qxb6604754a
