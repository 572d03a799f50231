import Derived.Test.Qxb6604754aLine
import Derived.Maps.AppendAt
namespace Go.Proofs.Qxb6604754a
open Go.RowKit

theorem Try.info3 : (Try.prog.info? 3).map (fun i => (i.zero, i.size, i.bytes)) = some (some (.int .i64 0), 1, 8) := by kernel_rfl
theorem Try.info23 : (Try.prog.info? 23).map (fun i => (i.zero, i.size, i.bytes)) = some (some (.float .f64 0), 1, 8) := by kernel_rfl

/-- two slices that hold the jobs' sizes and estimates -/
structure PairAt (w : World) (a b : Option Addr) (n : Nat) (L : List Job) : Prop where
  len : L.length = n
  at' : ∀ (i : Nat) x, L[i]? = some x → ∃ b1 o1 b2 o2, a = some ⟨b1, o1, none⟩ ∧ b = some ⟨b2, o2, none⟩ ∧ w.cell? ⟨b1, o1 + i, none⟩ = some (.int .i64 x.1) ∧ w.cell? ⟨b2, o2 + i, none⟩ = some (.float .f64 x.2)
theorem PairAt.gr {w w' : World} {a b : Option Addr} {n : Nat} {L : List Job} (h : PairAt w a b n L) (g : Gr w w') : PairAt w' a b n L :=
  ⟨h.len, fun i x hx => by
    obtain ⟨b1, o1, b2, o2, h1, h2, h3, h4⟩ := h.at' i x hx
    exact ⟨b1, o1, b2, o2, h1, h2, g.cell h3, g.cell h4⟩⟩

def iv (j : Job) : Value := .int .i64 j.1
def fv (j : Job) : Value := .float .f64 j.2

theorem row_form {w : World} {base n e s : Nat} {v : Value} {xs : List Value} (h : w.ownsRow base e s v n xs) : ∃ a c, v = .slice a n c := by
  rcases h.2 with ⟨rfl, rfl⟩ | ⟨g, cap, cur, rfl, _⟩
  · exact ⟨none, 0, rfl⟩
  · exact ⟨_, _, rfl⟩
theorem own_at {w : World} {base n e : Nat} {a : Option Addr} {c : Nat} {xs : List Value} (h : w.ownsRow base e 1 (.slice a n c) n xs) {i : Nat} {x : Value} (hx : xs[i]? = some x) :
    ∃ g, a = some ⟨g, 0, none⟩ ∧ w.cell? ⟨g, 0 + i, none⟩ = some x := by
  have hl := h.1
  have hi := (List.getElem?_eq_some_iff.1 hx).1
  have h0 := h
  rcases h.2 with ⟨h', hn⟩ | ⟨g', cap', cur, h', _⟩
  · omega
  · simp at h'
    obtain ⟨rfl, rfl⟩ := h'
    exact ⟨g', rfl, by rw [Nat.zero_add, h0.cellAt i (by omega)]; exact hx⟩
/-- rows of two element types lie apart -/
theorem own_apart {w : World} {base base' n m e e' : Nat} {v v' : Value} {xs ys : List Value} (h : w.ownsRow base e 1 v n xs) (h' : w.ownsRow base' e' 1 v' m ys) (he : e ≠ e') : ∀ k, v.ownBlock = some k → v'.ownBlock ≠ some k := by
  intro k hk hk'
  rcases h.2 with ⟨rfl, _⟩ | ⟨g, cap, cur, rfl, _, hg, _⟩
  · simp [Value.ownBlock] at hk
  · rcases h'.2 with ⟨rfl, _⟩ | ⟨g', cap', cur', rfl, _, hg', _⟩
    · simp [Value.ownBlock] at hk'
    · simp [Value.ownBlock] at hk hk'
      subst hk hk'
      rw [hg] at hg'
      simp at hg'
      exact he hg'.2

/-- two rows that grow -/
structure Two (w wr : World) (a : Option Addr) (c : Nat) (a' : Option Addr) (c' : Nat) (n : Nat) (L : List Job) : Prop where
  below : Gr w wr
  len : L.length = n
  r1 : wr.ownsRow w.heap.size 3 1 (.slice a n c) n (L.map iv)
  r2 : wr.ownsRow w.heap.size 23 1 (.slice a' n c') n (L.map fv)
theorem Two.start (w : World) : Two w w none 0 none 0 0 [] :=
  ⟨Gr.refl _, rfl, World.ownsRow_nil w _ 3 1, World.ownsRow_nil w _ 23 1⟩
theorem Two.pair {w wr : World} {a a' : Option Addr} {c c' n : Nat} {L : List Job} (h : Two w wr a c a' c' n L) : PairAt wr a a' n L :=
  ⟨h.len, fun i x hx => by
    obtain ⟨g1, e1, h1⟩ := own_at h.r1 (x := iv x) (by rw [List.getElem?_map, hx]; rfl)
    obtain ⟨g2, e2, h2⟩ := own_at h.r2 (x := fv x) (by rw [List.getElem?_map, hx]; rfl)
    exact ⟨g1, 0, g2, 0, e1, e2, h1, h2⟩⟩
theorem Two.drewN {w wr : World} {a a' : Option Addr} {c c' n : Nat} {L : List Job} (h : Two w wr a c a' c' n L) (k : Nat) : Two w (wr.drewN k) a c a' c' n L :=
  ⟨h.below.drewN k, h.len, h.r1, h.r2⟩
/-- behind the first of the two appends -/
structure Half (w w1 : World) (a : Option Addr) (c : Nat) (a' : Option Addr) (c' : Nat) (n : Nat) (L : List Job) (x : Job) : Prop where
  below : Gr w w1
  len : L.length = n
  r1 : w1.ownsRow w.heap.size 3 1 (.slice a (n + 1) c) (n + 1) ((L ++ [x]).map iv)
  r2 : w1.ownsRow w.heap.size 23 1 (.slice a' n c') n (L.map fv)
theorem Gr.alloc' {w wr : World} (h : Gr w wr) (o : Obj) : Gr w (wr.alloc o) := h.trans (Gr.alloc wr o)
theorem kept_other {w w' : World} {base base' n m e e' : Nat} {v v' : Value} {xs ys : List Value} (h : w.ownsRow base e 1 v n xs) (h' : w.ownsRow base' e' 1 v' m ys) (he : e ≠ e') (hg : w.grownBy w' v'.ownBlock) : w'.ownsRow base e 1 v n xs := by
  refine h.kept hg ?_
  cases hv : v.ownBlock with
  | none => exact .inl rfl
  | some k => exact .inr fun e2 => own_apart h h' he k hv e2.symm
theorem Two.push1 {w wr w1 : World} {a a' : Option Addr} {c c' n : Nat} {L : List Job} {x : Job} {o : Obj} {v : Value} (h : Two w wr a c a' c' n L)
    (hown : w1.ownsRow w.heap.size 3 1 v (n + 1) (L.map iv ++ [iv x])) (hgr : (wr.alloc o).grownBy w1 (Value.slice a n c).ownBlock) : ∃ a1 c1, v = .slice a1 (n + 1) c1 ∧ Half w w1 a1 c1 a' c' n L x := by
  obtain ⟨a1, c1, rfl⟩ := row_form hown
  refine ⟨a1, c1, rfl, ?_, h.len, by simpa using hown, ?_⟩
  · exact Below.grown (h.below.alloc' o) hgr (h.below.alloc' o).size (fun k hk => ((h.r1.alloc o).lt k hk).1)
  · exact kept_other (h.r2.alloc o) (h.r1.alloc o) (by decide) hgr
theorem Half.push2 {w w1 w2 : World} {a a' : Option Addr} {c c' n : Nat} {L : List Job} {x : Job} {o : Obj} {v : Value} (h : Half w w1 a c a' c' n L x)
    (hown : w2.ownsRow w.heap.size 23 1 v (n + 1) (L.map fv ++ [fv x])) (hgr : (w1.alloc o).grownBy w2 (Value.slice a' n c').ownBlock) : ∃ a2 c2, v = .slice a2 (n + 1) c2 ∧ Two w w2 a c a2 c2 (n + 1) (L ++ [x]) := by
  obtain ⟨a1, c1, rfl⟩ := row_form hown
  refine ⟨a1, c1, rfl, ?_, by simp [h.len], ?_, by simpa using hown⟩
  · exact Below.grown (h.below.alloc' o) hgr (h.below.alloc' o).size (fun k hk => ((h.r2.alloc o).lt k hk).1)
  · exact kept_other (h.r1.alloc o) (h.r2.alloc o) (by decide) hgr

end Go.Proofs.Qxb6604754a
