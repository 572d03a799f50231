import Derived.Test.Qxb6604754aSmall
namespace Go.Proofs.Qxb6604754a
open Go.RowKit

/-- a block of cells -/
def Blk (w : World) (b t : Nat) (cs : List Value) : Prop := w.heap[b]? = some (.cells cs.toArray t (0, 0))
theorem Blk.cell {w : World} {b t : Nat} {cs : List Value} (h : Blk w b t cs) (o : Nat) : w.cell? ⟨b, o, none⟩ = cs[o]? := by
  unfold Blk at h
  simp [World.cell?, h]
theorem Blk.frozen {w : World} {b t : Nat} {cs : List Value} (h : Blk w b t cs) (o : Nat) : w.frozen? ⟨b, o, none⟩ = false := by
  unfold Blk at h
  simp [World.frozen?, h]
theorem Blk.lt {w : World} {b t : Nat} {cs : List Value} (h : Blk w b t cs) : b < w.heap.size := (Array.getElem?_eq_some_iff.1 h).1
theorem Blk.kept {w w' : World} {b t : Nat} {cs : List Value} (h : Blk w b t cs) (e : w'.heap[b]? = w.heap[b]?) : Blk w' b t cs := by
  unfold Blk at *
  rw [e]; exact h
theorem Blk.gr {w w' : World} {b t : Nat} {cs : List Value} (h : Blk w b t cs) (g : Gr w w') : Blk w' b t cs := h.kept (g.block b h.lt)
theorem Blk.other {w : World} {b t : Nat} {cs : List Value} (h : Blk w b t cs) {p : Addr} (hp : b ≠ p.block) (v : Value) : Blk (w.setCell p v) b t cs :=
  h.kept (Below.heap_setCell w p v b hp)
theorem Blk.drew {w : World} {b t : Nat} {cs : List Value} (h : Blk w b t cs) : Blk w.drew b t cs := h
theorem Blk.drewN {w : World} {b t : Nat} {cs : List Value} (h : Blk w b t cs) (n : Nat) : Blk (w.drewN n) b t cs := h
theorem Blk.set {w : World} {b t : Nat} {cs : List Value} (h : Blk w b t cs) (o : Nat) (v : Value) : Blk (w.setCell ⟨b, o, none⟩ v) b t (cs.set o v) := by
  unfold Blk at *
  simp [World.setCell, Array.getElem?_modify, h]
theorem blk_own {w : World} {base e n s b : Nat} {cap : Nat} {xs : List Value} (h : w.ownsRow base e s (.slice (some ⟨b, 0, none⟩) n cap) n xs) (hc : cap = n) : Blk w b e xs := by
  rcases h.2 with ⟨h', _⟩ | ⟨g, cap', cur, h', _, hg, _, _, hs, ht⟩
  · simp at h'
  · simp at h'
    obtain ⟨rfl, rfl⟩ := h'
    subst hc
    have : cur.toList = xs := by
      rw [← ht, List.take_of_length_le]
      simp [hs]
    unfold Blk
    rw [hg, ← this]
/-- a cell that is no cell of a block of slices -/
theorem cell_apart {w : World} {b t : Nat} {cs : List Value} (h : Blk w b t cs) (hs : ∀ v ∈ cs, ∃ a n c, v = .slice a n c) {p : Addr} {v : Value} (hp : w.cell? ⟨p.block, p.off, none⟩ = some v) (hv : ∀ a n c, v ≠ .slice a n c) : p.block ≠ b := by
  intro e
  rw [e, h.cell] at hp
  obtain ⟨a, n, c, rfl⟩ := hs v (List.mem_of_getElem? hp)
  exact hv a n c rfl
/-- a world in which one slice of a block of slices has been set -/
theorem cell_set {w : World} {b t : Nat} {cs : List Value} (h : Blk w b t cs) (hs : ∀ v ∈ cs, ∃ a n c, v = .slice a n c) {q o : Nat} {v : Value} (hp : w.cell? ⟨q, o, none⟩ = some v) (hv : ∀ a n c, v ≠ .slice a n c) (o' : Nat) (u : Value) :
    (w.setCell ⟨b, o', none⟩ u).cell? ⟨q, o, none⟩ = some v := by
  have := cell_apart h hs (p := ⟨q, o, none⟩) hp hv
  rw [World.cell?_setCell_other _ _ _ _ (by simp; intro e; exact absurd e.symm (by simpa using this))]
  exact hp
theorem slices_set {cs : List Value} (hs : ∀ v ∈ cs, ∃ a n c, v = .slice a n c) (o : Nat) (a : Option Addr) (n c : Nat) : ∀ v ∈ cs.set o (.slice a n c), ∃ a n c, v = .slice a n c := by
  intro v hv
  rcases List.mem_or_eq_of_mem_set hv with h | h
  · exact hs v h
  · exact ⟨a, n, c, h⟩
theorem PairAt.set {w : World} {b t : Nat} {cs : List Value} (h : Blk w b t cs) (hs : ∀ v ∈ cs, ∃ a n c, v = .slice a n c) {a a' : Option Addr} {n : Nat} {L : List Job} (hp : PairAt w a a' n L) (o' : Nat) (u : Value) : PairAt (w.setCell ⟨b, o', none⟩ u) a a' n L :=
  ⟨hp.len, fun i x hx => by
    obtain ⟨b1, o1, b2, o2, h1, h2, h3, h4⟩ := hp.at' i x hx
    exact ⟨b1, o1, b2, o2, h1, h2, cell_set h hs h3 (by simp) o' u, cell_set h hs h4 (by simp) o' u⟩⟩
theorem SlotsAt.set {w : World} {b t : Nat} {cs : List Value} (h : Blk w b t cs) (hs : ∀ v ∈ cs, ∃ a n c, v = .slice a n c) {a : Option Addr} {n : Nat} {L : List Slt} (hp : SlotsAt w a n L) (o' : Nat) (u : Value) : SlotsAt (w.setCell ⟨b, o', none⟩ u) a n L :=
  ⟨hp.len, fun i x hx => by
    obtain ⟨b1, o1, h1, h3, h4, h5⟩ := hp.at' i x hx
    exact ⟨b1, o1, h1, cell_set h hs h3 (by simp) o' u, cell_set h hs h4 (by simp) o' u, cell_set h hs h5 (by simp) o' u⟩⟩
theorem StepsAt.set {w : World} {b t : Nat} {cs : List Value} (h : Blk w b t cs) (hs : ∀ v ∈ cs, ∃ a n c, v = .slice a n c) {a : Option Addr} {n : Nat} {L : List Job} (hp : StepsAt w a n L) (o' : Nat) (u : Value) : StepsAt (w.setCell ⟨b, o', none⟩ u) a n L :=
  ⟨hp.len, fun i x hx => by
    obtain ⟨b1, o1, h1, h3, h4⟩ := hp.at' i x hx
    exact ⟨b1, o1, h1, cell_set h hs h3 (by simp) o' u, cell_set h hs h4 (by simp) o' u⟩⟩

/-- a row of slots, its first k filled -/
structure Fill3 (cs : List Value) (n k : Nat) (sl : List Slt) : Prop where
  len : cs.length = n * 3
  at' : ∀ (j : Nat) x, sl[j]? = some x → j < k → cs[j * 3]? = some (.int .i64 x.1) ∧ cs[j * 3 + 1]? = some (.int .i64 x.2.1) ∧ cs[j * 3 + 2]? = some (.float .f64 x.2.2)
theorem Fill3.step {cs : List Value} {n k : Nat} {sl : List Slt} (h : Fill3 cs n k sl) (hk : k < n) {x : Slt} (hx : sl[k]? = some x) :
    Fill3 (((cs.set (k * 3) (.int .i64 x.1)).set (k * 3 + 1) (.int .i64 x.2.1)).set (k * 3 + 2) (.float .f64 x.2.2)) n (k + 1) sl := by
  have hl := h.len
  refine ⟨by simp [h.len], fun j y hy hj => ?_⟩
  by_cases e : j = k
  · subst e
    rw [hx] at hy
    cases hy
    refine ⟨?_, ?_, ?_⟩
    · rw [List.getElem?_set_ne (by omega), List.getElem?_set_ne (by omega), List.getElem?_set_self (by omega)]
    · rw [List.getElem?_set_ne (by omega), List.getElem?_set_self (by simp; omega)]
    · rw [List.getElem?_set_self (by simp; omega)]
  · obtain ⟨h1, h2, h3⟩ := h.at' j y hy (by omega)
    refine ⟨?_, ?_, ?_⟩
    · rw [List.getElem?_set_ne (by omega), List.getElem?_set_ne (by omega), List.getElem?_set_ne (by omega)]; exact h1
    · rw [List.getElem?_set_ne (by omega), List.getElem?_set_ne (by omega), List.getElem?_set_ne (by omega)]; exact h2
    · rw [List.getElem?_set_ne (by omega), List.getElem?_set_ne (by omega), List.getElem?_set_ne (by omega)]; exact h3
theorem Fill3.cells {cs : List Value} {n k : Nat} {sl : List Slt} (h : Fill3 cs n k sl) (hk : k < n) : (∃ u, cs[k * 3]? = some u) ∧ (∃ u, cs[k * 3 + 1]? = some u) ∧ (∃ u, cs[k * 3 + 2]? = some u) := by
  have hl := h.len
  exact ⟨⟨_, List.getElem?_eq_getElem (by omega)⟩, ⟨_, List.getElem?_eq_getElem (by omega)⟩, ⟨_, List.getElem?_eq_getElem (by omega)⟩⟩
theorem Fill3.slots {w : World} {b t : Nat} {cs : List Value} {n : Nat} {sl : List Slt} (h : Fill3 cs n n sl) (hl : sl.length = n) (hb : Blk w b t cs) : SlotsAt w (some ⟨b, 0, none⟩) n sl :=
  ⟨hl, fun i x hx => by
    have hi := (List.getElem?_eq_some_iff.1 hx).1
    obtain ⟨h1, h2, h3⟩ := h.at' i x hx (by omega)
    refine ⟨b, 0, rfl, ?_, ?_, ?_⟩
    · rw [Nat.zero_add, hb.cell]; exact h1
    · rw [Nat.zero_add, hb.cell]; exact h2
    · rw [Nat.zero_add, hb.cell]; exact h3⟩
/-- a row of steps, its first k filled -/
structure Fill2 (cs : List Value) (n k : Nat) (S : List Job) : Prop where
  len : cs.length = n * 2
  at' : ∀ (j : Nat) x, S[j]? = some x → j < k → cs[j * 2]? = some (.int .i64 x.1) ∧ cs[j * 2 + 1]? = some (.float .f64 x.2)
theorem Fill2.step {cs : List Value} {n k : Nat} {S : List Job} (h : Fill2 cs n k S) (hk : k < n) {x : Job} (hx : S[k]? = some x) :
    Fill2 ((cs.set (k * 2) (.int .i64 x.1)).set (k * 2 + 1) (.float .f64 x.2)) n (k + 1) S := by
  have hl := h.len
  refine ⟨by simp [h.len], fun j y hy hj => ?_⟩
  by_cases e : j = k
  · subst e
    rw [hx] at hy
    cases hy
    refine ⟨?_, ?_⟩
    · rw [List.getElem?_set_ne (by omega), List.getElem?_set_self (by omega)]
    · rw [List.getElem?_set_self (by simp; omega)]
  · obtain ⟨h1, h2⟩ := h.at' j y hy (by omega)
    refine ⟨?_, ?_⟩
    · rw [List.getElem?_set_ne (by omega), List.getElem?_set_ne (by omega)]; exact h1
    · rw [List.getElem?_set_ne (by omega), List.getElem?_set_ne (by omega)]; exact h2
theorem Fill2.cells {cs : List Value} {n k : Nat} {S : List Job} (h : Fill2 cs n k S) (hk : k < n) : (∃ u, cs[k * 2]? = some u) ∧ (∃ u, cs[k * 2 + 1]? = some u) := by
  have hl := h.len
  exact ⟨⟨_, List.getElem?_eq_getElem (by omega)⟩, ⟨_, List.getElem?_eq_getElem (by omega)⟩⟩
theorem Fill2.steps {w : World} {b t : Nat} {cs : List Value} {n : Nat} {S : List Job} (h : Fill2 cs n n S) (hl : S.length = n) (hb : Blk w b t cs) : StepsAt w (some ⟨b, 0, none⟩) n S :=
  ⟨hl, fun i x hx => by
    have hi := (List.getElem?_eq_some_iff.1 hx).1
    obtain ⟨h1, h2⟩ := h.at' i x hx (by omega)
    refine ⟨b, 0, rfl, ?_, ?_⟩
    · rw [Nat.zero_add, hb.cell]; exact h1
    · rw [Nat.zero_add, hb.cell]; exact h2⟩

end Go.Proofs.Qxb6604754a
