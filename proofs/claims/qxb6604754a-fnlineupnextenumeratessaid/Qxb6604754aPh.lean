import Derived.Test.Qxb6604754aBlk
import Derived.Test.Qxb6604754aMerge
namespace Go.Proofs.Qxb6604754a
open Go.RowKit

theorem Try.info46 : (Try.prog.info? 46).map (fun i => (i.zero, i.size, i.bytes)) = some (some (.agg #[.int .i64 0, .int .i64 0, .float .f64 0]), 3, 24) := by kernel_rfl
theorem Try.info30 : (Try.prog.info? 30).map (fun i => (i.zero, i.size, i.bytes)) = some (some (.slice none 0 0), 1, 24) := by kernel_rfl
theorem Try.info50 : (Try.prog.info? 50).map (fun i => (i.zero, i.size, i.bytes)) = some (some (.slice none 0 0), 1, 24) := by kernel_rfl
theorem Try.info32 : (Try.prog.info? 32).map (fun i => (i.zero, i.size, i.bytes)) = some (some (.slice none 0 0), 1, 24) := by kernel_rfl
theorem Try.info44 : (Try.prog.info? 44).map (fun i => (i.zero, i.size, i.bytes)) = some (some (.agg #[.int .i64 0, .float .f64 0]), 2, 16) := by kernel_rfl

/-- the zero queue -/
def zq : List Value := [.slice none 0 0, .slice none 0 0, .slice none 0 0, .slice none 0 0, .int .i64 0, .int .i64 0, .int .i64 0, .slice none 0 0, .slice none 0 0, .bool false, .slice none 0 0]

/-- the first position so far -/
structure Fst (sl : List Slt) (n k f : Nat) : Prop where
  le : f ≤ n
  low : ∀ (p : Nat) x, sl[p]? = some x → p < f → p < k → x.1 < 0
  cas : f = n ∨ f < k
theorem Fst.start (sl : List Slt) (n : Nat) : Fst sl n 0 n := ⟨Nat.le_refl _, fun _ _ _ _ h => by omega, .inl rfl⟩
theorem Fst.neg {sl : List Slt} {n k f : Nat} (h : Fst sl n k f) {x : Slt} (hx : sl[k]? = some x) (hj : ¬ 0 ≤ x.1) : Fst sl n (k + 1) f :=
  ⟨h.le, fun p y hy h1 h2 => by
    by_cases e : p = k
    · subst e; rw [hx] at hy; cases hy; omega
    · exact h.low p y hy h1 (by omega), by have := h.cas; omega⟩
theorem Fst.first {sl : List Slt} {n k f : Nat} (h : Fst sl n k f) (hk : k < n) (hf : f = n) : Fst sl n (k + 1) k :=
  ⟨by omega, fun p y hy h1 h2 => h.low p y hy (by omega) h1, .inr (by omega)⟩
theorem Fst.later {sl : List Slt} {n k f : Nat} (h : Fst sl n k f) (hf : f ≠ n) : Fst sl n (k + 1) f :=
  ⟨h.le, fun p y hy h1 h2 => h.low p y hy h1 (by have := h.cas; omega), by have := h.cas; omega⟩

/-- what stands ahead of the tree -/
structure Ph0 (w wr : World) (R n : Nat) (sl : List Slt) : Prop where
  gr : Gr w wr
  rs : w.heap.size = R
  res : Blk wr R 35 zq
  slots : SlotsAt wr (some ⟨R + 1, 0, none⟩) n sl
theorem Ph0.size {w wr : World} {R n : Nat} {sl : List Slt} (h : Ph0 w wr R n sl) : R ≤ wr.heap.size := by rw [← h.rs]; exact h.gr.size
theorem Ph0.step {w wr w' : World} {R n : Nat} {sl : List Slt} (h : Ph0 w wr R n sl) (g : Gr wr w') : Ph0 w w' R n sl :=
  ⟨h.gr.trans g, h.rs, h.res.gr g, h.slots.gr g⟩
theorem Ph0.set {w wr : World} {R n b t : Nat} {sl : List Slt} {cs : List Value} (h : Ph0 w wr R n sl) (hb : Blk wr b t cs) (hs : ∀ v ∈ cs, ∃ a n c, v = .slice a n c) (hR : R < b) (o : Nat) (u : Value) : Ph0 w (wr.setCell ⟨b, o, none⟩ u) R n sl :=
  ⟨Below.setCell h.gr (by rw [h.rs]; exact Nat.le_of_lt hR) u, h.rs, h.res.other (by simp; omega) u, h.slots.set hb hs o u⟩
theorem made_one (n : Nat) (z : Value) (hz : z.cells = #[z]) : (madeCells z.cells (n * 1)).toList.length = n ∧ ∀ v ∈ (madeCells z.cells (n * 1)).toList, v = z := by
  refine ⟨by simp [size_madeCells], fun v hv => ?_⟩
  rw [hz] at hv
  simp [madeCells] at hv
  obtain ⟨i, _, rfl⟩ := hv
  simp [Nat.mod_one]

/-- the tree as it grows: the nodes from lo up to hi stand -/
structure Ph (w wr : World) (R n : Nat) (sl : List Slt) (bZ bE : Nat) (csZ csE : List Value) (d lo hi : Nat) : Prop where
  p0 : Ph0 w wr R n sl
  z : Blk wr bZ 30 csZ
  zs : ∀ v ∈ csZ, ∃ a n c, v = .slice a n c
  zl : csZ.length = 2 * 2 ^ d
  e : Blk wr bE 50 csE
  es : ∀ v ∈ csE, ∃ a n c, v = .slice a n c
  el : csE.length = 2 * 2 ^ d
  rz : R < bZ
  re : R < bE
  ne : bZ ≠ bE
  nodes : ∀ k, lo ≤ k → k < hi → ∃ a1 c1 a2 c2 S m, csZ[k]? = some (.slice a1 m c1) ∧ csE[k]? = some (.slice a2 m c2) ∧ PairAt wr a1 a2 m S ∧ Node sl d k S
theorem Ph.step {w wr w' : World} {R n bZ bE d lo hi : Nat} {sl : List Slt} {csZ csE : List Value} (h : Ph w wr R n sl bZ bE csZ csE d lo hi) (g : Gr wr w') : Ph w w' R n sl bZ bE csZ csE d lo hi :=
  ⟨h.p0.step g, h.z.gr g, h.zs, h.zl, h.e.gr g, h.es, h.el, h.rz, h.re, h.ne, fun k h1 h2 => by
    obtain ⟨a1, c1, a2, c2, S, m, x1, x2, x3, x4⟩ := h.nodes k h1 h2
    exact ⟨a1, c1, a2, c2, S, m, x1, x2, x3.gr g, x4⟩⟩
theorem Ph.put {w wr : World} {R n bZ bE d lo hi lo' hi' : Nat} {sl : List Slt} {csZ csE : List Value} (h : Ph w wr R n sl bZ bE csZ csE d lo hi) {k : Nat} (hk : k < 2 * 2 ^ d) {a1 a2 : Option Addr} {c1 c2 m : Nat} {S : List Job} (hp : PairAt wr a1 a2 m S) (hN : Node sl d k S)
    (hr : ∀ j, lo' ≤ j → j < hi' → (lo ≤ j ∧ j < hi) ∨ j = k) :
    Ph w ((wr.setCell ⟨bZ, k, none⟩ (.slice a1 m c1)).setCell ⟨bE, k, none⟩ (.slice a2 m c2)) R n sl bZ bE (csZ.set k (.slice a1 m c1)) (csE.set k (.slice a2 m c2)) d lo' hi' := by
  have e' : Blk (wr.setCell ⟨bZ, k, none⟩ (.slice a1 m c1)) bE 50 csE := h.e.other (by simp; exact fun e => h.ne e.symm) _
  refine ⟨(h.p0.set h.z h.zs h.rz _ _).set e' h.es h.re _ _, (h.z.set k _).other (by simp; exact h.ne) _, slices_set h.zs _ _ _ _, by simp [h.zl], e'.set k _, slices_set h.es _ _ _ _, by simp [h.el], h.rz, h.re, h.ne, fun j j1 j2 => ?_⟩
  by_cases ejk : j = k
  · subst ejk
    refine ⟨a1, c1, a2, c2, S, m, List.getElem?_set_self (by rw [h.zl]; exact hk), List.getElem?_set_self (by rw [h.el]; exact hk), (hp.set h.z h.zs _ _).set e' h.es _ _, hN⟩
  · rcases hr j j1 j2 with ⟨q1, q2⟩ | q
    · obtain ⟨b1, d1, b2, d2, S', m', x1, x2, x3, x4⟩ := h.nodes j q1 q2
      exact ⟨b1, d1, b2, d2, S', m', by rw [List.getElem?_set_ne (by omega)]; exact x1, by rw [List.getElem?_set_ne (by omega)]; exact x2, (x3.set h.z h.zs _ _).set e' h.es _ _, x4⟩
    · exact absurd q ejk
theorem ph_start {w wr w1 w2 : World} {R n M d : Nat} {sl : List Slt} (h : Ph0 w wr R n sl) (hM : M = 2 * 2 ^ d)
    (hown1 : w1.ownsRow R 30 1 (.slice (some ⟨wr.heap.size, 0, none⟩) M M) M (madeCells (Value.slice none 0 0).cells (M * 1)).toList) (hgr1 : wr.grownBy w1 none)
    (hown2 : w2.ownsRow R 50 1 (.slice (some ⟨w1.heap.size, 0, none⟩) M M) M (madeCells (Value.slice none 0 0).cells (M * 1)).toList) (hgr2 : w1.grownBy w2 none) (k : Nat) :
    ∃ csZ csE, Ph w w2 R n sl wr.heap.size w1.heap.size csZ csE d k k := by
  have g1 : Gr wr w1 := Below.grown (Below.refl _ _) hgr1 (Nat.le_refl _) (by simp)
  have g2 : Gr w1 w2 := Below.grown (Below.refl _ _) hgr2 (Nat.le_refl _) (by simp)
  have b1 := blk_own hown1 rfl
  have b2 := blk_own hown2 rfl
  obtain ⟨l1, l2⟩ := made_one M (.slice none 0 0) rfl
  have hR : R < wr.heap.size := h.res.lt
  have hlt := b1.lt
  refine ⟨_, _, h.step (g1.trans g2), b1.gr g2, fun v hv => ⟨none, 0, 0, l2 v hv⟩, by rw [l1, hM], b2, fun v hv => ⟨none, 0, 0, l2 v hv⟩, by rw [l1, hM], hR, ?_, ?_, fun j j1 j2 => by omega⟩
  · have := g1.size; omega
  · omega

end Go.Proofs.Qxb6604754a
