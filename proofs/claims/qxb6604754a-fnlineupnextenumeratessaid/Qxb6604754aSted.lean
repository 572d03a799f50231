import Derived.Test.Qxb6604754aIns
namespace Go.Proofs.Qxb6604754a
open Go.RowKit

theorem Ph.set {w wr : World} {R n bZ bE d lo hi bT t : Nat} {sl : List Slt} {csZ csE csT : List Value} (h : Ph w wr R n sl bZ bE csZ csE d lo hi) (hb : Blk wr bT t csT) (hs : ∀ v ∈ csT, ∃ a n c, v = .slice a n c) (hR : R < bT) (h1 : bT ≠ bZ) (h2 : bT ≠ bE) (o : Nat) (u : Value) :
    Ph w (wr.setCell ⟨bT, o, none⟩ u) R n sl bZ bE csZ csE d lo hi :=
  ⟨h.p0.set hb hs hR o u, h.z.other (by simp; exact fun e => h1 e.symm) u, h.zs, h.zl, h.e.other (by simp; exact fun e => h2 e.symm) u, h.es, h.el, h.rz, h.re, h.ne, fun k k1 k2 => by
    obtain ⟨a1, c1, a2, c2, S, m, x1, x2, x3, x4⟩ := h.nodes k k1 k2
    exact ⟨a1, c1, a2, c2, S, m, x1, x2, x3.set hb hs o u, x4⟩⟩

/-- the stairs as they grow: those ahead of k stand -/
structure PT (w wr : World) (R n : Nat) (sl : List Slt) (bZ bE : Nat) (csZ csE : List Value) (d M bT : Nat) (csT : List Value) (k : Nat) : Prop where
  ph : Ph w wr R n sl bZ bE csZ csE d 1 M
  t : Blk wr bT 32 csT
  ts : ∀ v ∈ csT, ∃ a n c, v = .slice a n c
  tl : csT.length = M
  rt : R < bT
  tz : bT ≠ bZ
  te : bT ≠ bE
  t0 : csT[0]? = some (.slice none 0 0)
  done : ∀ j, 1 ≤ j → j < k → ∃ b c S, R < b ∧ csT[j]? = some (.slice (some ⟨b, 0, none⟩) S.length c) ∧ StepsAt wr (some ⟨b, 0, none⟩) S.length S ∧ Node sl d j S
theorem PT.step {w wr w' : World} {R n bZ bE d M bT k : Nat} {sl : List Slt} {csZ csE csT : List Value} (h : PT w wr R n sl bZ bE csZ csE d M bT csT k) (g : Gr wr w') : PT w w' R n sl bZ bE csZ csE d M bT csT k :=
  ⟨h.ph.step g, h.t.gr g, h.ts, h.tl, h.rt, h.tz, h.te, h.t0, fun j h1 h2 => by
    obtain ⟨b, c, S, x0, x1, x2, x3⟩ := h.done j h1 h2
    exact ⟨b, c, S, x0, x1, x2.gr g, x3⟩⟩
theorem PT.put {w wr : World} {R n bZ bE d M bT k : Nat} {sl : List Slt} {csZ csE csT : List Value} (h : PT w wr R n sl bZ bE csZ csE d M bT csT k) (hk1 : 1 ≤ k) (hk : k < M) {b c m : Nat} {S : List Job} (hb : R < b) (hm : S.length = m) (hp : StepsAt wr (some ⟨b, 0, none⟩) m S) (hN : Node sl d k S) :
    PT w (wr.setCell ⟨bT, k, none⟩ (.slice (some ⟨b, 0, none⟩) m c)) R n sl bZ bE csZ csE d M bT (csT.set k (.slice (some ⟨b, 0, none⟩) m c)) (k + 1) := by
  subst hm
  refine ⟨h.ph.set h.t h.ts h.rt h.tz h.te _ _, h.t.set k _, slices_set h.ts _ _ _ _, by simp [h.tl], h.rt, h.tz, h.te, by rw [List.getElem?_set_ne (by omega)]; exact h.t0, fun j j1 j2 => ?_⟩
  by_cases e : j = k
  · subst e
    exact ⟨b, c, S, hb, List.getElem?_set_self (by rw [h.tl]; exact hk), hp.set h.t h.ts _ _, hN⟩
  · obtain ⟨b', c', S', x0, x1, x2, x3⟩ := h.done j j1 (by omega)
    exact ⟨b', c', S', x0, by rw [List.getElem?_set_ne (by omega)]; exact x1, x2.set h.t h.ts _ _, x3⟩
theorem pt_start {w wr w1 : World} {R n M d bZ bE : Nat} {sl : List Slt} {csZ csE : List Value} (h : Ph w wr R n sl bZ bE csZ csE d 1 M) (hM : 0 < M)
    (hown1 : w1.ownsRow R 32 1 (.slice (some ⟨wr.heap.size, 0, none⟩) M M) M (madeCells (Value.slice none 0 0).cells (M * 1)).toList) (hgr1 : wr.grownBy w1 none) :
    ∃ csT, PT w w1 R n sl bZ bE csZ csE d M wr.heap.size csT 1 := by
  have g1 : Gr wr w1 := Below.grown (Below.refl _ _) hgr1 (Nat.le_refl _) (by simp)
  have b1 := blk_own hown1 rfl
  obtain ⟨l1, l2⟩ := made_one M (.slice none 0 0) rfl
  have hz := h.z.lt
  have he := h.e.lt
  refine ⟨_, h.step g1, b1, fun v hv => ⟨none, 0, 0, l2 v hv⟩, l1, h.p0.res.lt, by omega, by omega, ?_, fun j j1 j2 => by omega⟩
  rw [List.getElem?_eq_getElem (by rw [l1]; exact hM)]
  exact congrArg some (l2 _ (List.getElem_mem _))

theorem cell_kept {w w' : World} {b o : Nat} (e : w'.heap[b]? = w.heap[b]?) : w'.cell? ⟨b, o, none⟩ = w.cell? ⟨b, o, none⟩ := by
  simp [World.cell?, e]

/-- the whole queue's memory, apart from the result's block -/
structure PQ (wr : World) (R n : Nat) (sl : List Slt) (d M bT : Nat) (T : List (List Job)) : Prop where
  slots : SlotsAt wr (some ⟨R + 1, 0, none⟩) n sl
  tl : T.length = M
  tb : R < bT
  row : ∀ (k : Nat) S, T[k]? = some S → ∃ a c, wr.cell? ⟨bT, k, none⟩ = some (.slice a S.length c) ∧ StepsAt wr a S.length S ∧ ((a = none ∧ S = []) ∨ ∃ b, a = some ⟨b, 0, none⟩ ∧ R < b)
  node : ∀ k S, 1 ≤ k → T[k]? = some S → Node sl d k S
theorem PT.full {w wr : World} {R n bZ bE d M bT : Nat} {sl : List Slt} {csZ csE csT : List Value} (h : PT w wr R n sl bZ bE csZ csE d M bT csT M) : ∃ T, PQ wr R n sl d M bT T := by
  have each : ∀ j : Fin M, ∃ S : List Job, ∃ a c, csT[j.1]? = some (.slice a S.length c) ∧ StepsAt wr a S.length S ∧ ((a = none ∧ S = []) ∨ ∃ b, a = some ⟨b, 0, none⟩ ∧ R < b) ∧ (1 ≤ j.1 → Node sl d j.1 S) := by
    intro j
    by_cases e : j.1 = 0
    · refine ⟨[], none, 0, by rw [e]; exact h.t0, ⟨rfl, fun i x hx => by simp at hx⟩, .inl ⟨rfl, rfl⟩, fun h1 => by omega⟩
    · obtain ⟨b, c, S, x0, x1, x2, x3⟩ := h.done j.1 (by omega) j.2
      exact ⟨S, _, c, x1, x2, .inr ⟨b, rfl, x0⟩, fun _ => x3⟩
  obtain ⟨f, hf⟩ := (show ∃ f : Fin M → List Job, ∀ j, ∃ a c, csT[j.1]? = some (.slice a (f j).length c) ∧ StepsAt wr a (f j).length (f j) ∧ ((a = none ∧ f j = []) ∨ ∃ b, a = some ⟨b, 0, none⟩ ∧ R < b) ∧ (1 ≤ j.1 → Node sl d j.1 (f j)) from ⟨fun j => Classical.choose (each j), fun j => Classical.choose_spec (each j)⟩)
  have key : ∀ (k : Nat) S, (List.ofFn f)[k]? = some S → ∃ hk : k < M, S = f ⟨k, hk⟩ := by
    intro k S hS
    obtain ⟨h1, h2⟩ := List.getElem?_eq_some_iff.1 hS
    simp at h1
    refine ⟨h1, ?_⟩
    rw [← h2]
    simp
  refine ⟨List.ofFn f, h.ph.p0.slots, by simp, h.rt, fun k S hS => ?_, fun k S h1 hS => ?_⟩
  · obtain ⟨hk, rfl⟩ := key k S hS
    obtain ⟨a, c, x1, x2, x3, -⟩ := hf ⟨k, hk⟩
    exact ⟨a, c, (h.t.cell k).trans x1, x2, x3⟩
  · obtain ⟨hk, rfl⟩ := key k S hS
    obtain ⟨a, c, -, -, -, x4⟩ := hf ⟨k, hk⟩
    exact x4 h1
theorem PQ.step {wr w' : World} {R n d M bT : Nat} {sl : List Slt} {T : List (List Job)} (h : PQ wr R n sl d M bT T) (g : Gr wr w') : PQ w' R n sl d M bT T :=
  ⟨h.slots.gr g, h.tl, h.tb, fun k S hS => by
    obtain ⟨a, c, x1, x2, x3⟩ := h.row k S hS
    exact ⟨a, c, g.cell x1, x2.gr g, x3⟩, h.node⟩
theorem PQ.fin {wr w' : World} {R n d M bT : Nat} {sl : List Slt} {T : List (List Job)} (h : PQ wr R n sl d M bT T) (e : ∀ b, b ≠ R → w'.heap[b]? = wr.heap[b]?) : SlotsAt w' (some ⟨R + 1, 0, none⟩) n sl ∧ StairsAt w' (some ⟨bT, 0, none⟩) M T := by
  have htb := h.tb
  refine ⟨⟨h.slots.len, fun i x hx => ?_⟩, h.tl, fun k S hS => ?_⟩
  · obtain ⟨b, o, h1, h2, h3, h4⟩ := h.slots.at' i x hx
    have hb : b = R + 1 := by simp at h1; omega
    have e' := e b (by omega)
    exact ⟨b, o, h1, (cell_kept e').trans h2, (cell_kept e').trans h3, (cell_kept e').trans h4⟩
  · obtain ⟨a, c, x1, x2, x3⟩ := h.row k S hS
    refine ⟨bT, 0, a, c, rfl, by rw [Nat.zero_add]; exact (cell_kept (e bT (by omega))).trans x1, x2.len, fun i x hx => ?_⟩
    rcases x3 with ⟨-, rfl⟩ | ⟨b', rfl, hb'⟩
    · simp at hx
    · obtain ⟨b, o, h1, h2, h3⟩ := x2.at' i x hx
      have hb : b = b' := by simp at h1; omega
      have e' := e b (by omega)
      exact ⟨b, o, h1, (cell_kept e').trans h2, (cell_kept e').trans h3⟩

/-- the result's block filled -/
def wfin (w : World) (R : Nat) (a1 a2 a3 a4 a5 a6 a7 a8 a9 a10 a11 : Value) : World :=
  ((((((((((w.setCell ⟨R, 0, none⟩ a1).setCell ⟨R, 1, none⟩ a2).setCell ⟨R, 2, none⟩ a3).setCell ⟨R, 3, none⟩ a4).setCell ⟨R, 4, none⟩ a5).setCell ⟨R, 5, none⟩ a6).setCell ⟨R, 6, none⟩ a7).setCell ⟨R, 7, none⟩ a8).setCell ⟨R, 8, none⟩ a9).setCell ⟨R, 9, none⟩ a10).setCell ⟨R, 10, none⟩ a11
theorem wfin_other (w : World) (R : Nat) (a1 a2 a3 a4 a5 a6 a7 a8 a9 a10 a11 : Value) (b : Nat) (hb : b ≠ R) : (wfin w R a1 a2 a3 a4 a5 a6 a7 a8 a9 a10 a11).heap[b]? = w.heap[b]? := by
  unfold wfin
  have e := fun (u : World) (o : Nat) (v : Value) => Below.heap_setCell u ⟨R, o, none⟩ v b (by simpa using hb)
  rw [e, e, e, e, e, e, e, e, e, e, e]
theorem wfin_blk {w : World} {R : Nat} (h : Blk w R 35 zq) (a1 a2 a3 a4 a5 a6 a7 a8 a9 a10 a11 : Value) : Blk (wfin w R a1 a2 a3 a4 a5 a6 a7 a8 a9 a10 a11) R 35 [a1, a2, a3, a4, a5, a6, a7, a8, a9, a10, a11] :=
  ((((((((((h.set 0 a1).set 1 a2).set 2 a3).set 3 a4).set 4 a5).set 5 a6).set 6 a7).set 7 a8).set 8 a9).set 9 a10).set 10 a11
theorem wfin_gr {w0 w : World} {R : Nat} (h : Gr w0 w) (hR : w0.heap.size = R) (a1 a2 a3 a4 a5 a6 a7 a8 a9 a10 a11 : Value) : Gr w0 (wfin w R a1 a2 a3 a4 a5 a6 a7 a8 a9 a10 a11) := by
  have hr : w0.heap.size ≤ R := Nat.le_of_eq hR
  unfold wfin
  exact Below.setCell (Below.setCell (Below.setCell (Below.setCell (Below.setCell (Below.setCell (Below.setCell (Below.setCell (Below.setCell (Below.setCell (Below.setCell h hr _) hr _) hr _) hr _) hr _) hr _) hr _) hr _) hr _) hr _) hr _

end Go.Proofs.Qxb6604754a
