import Derived.Test.Qxb6604321aSmall
import Derived.Deep.RegionLaw
import Derived.Laws.BytesArg
namespace Go.Proofs.Qxb6604321a
open Go.RowKit

theorem InRow.below {w w' : World} {a : Option Addr} {len cap : Nat} {zs : List Int} (H : InRow w a len cap zs) (h : Below w.heap.size w w') : InRow w' a len cap zs := by
  rcases H with H | ⟨x, rfl, h1, h2, h3, h4, h5⟩
  · exact .inl H
  · exact .inr ⟨x, rfl, h1, h2, h3, fun j hj => by
      have hc := h4 j hj
      have hb := World.block_lt_of_cell? w _ hc
      exact (h.cell hb).trans hc, h5⟩

/-- the box that holds the law's own copy of the kept strings -/
def KBox (w : World) (B : Nat) (s0 s1 s2 s3 s4 s5 s6 s7 : ByteArray) : Prop :=
  B < w.heap.size ∧ w.cell? ⟨B, 0, none⟩ = some (.string s0) ∧ w.cell? ⟨B, 1, none⟩ = some (.string s1) ∧ w.cell? ⟨B, 2, none⟩ = some (.string s2) ∧ w.cell? ⟨B, 3, none⟩ = some (.string s3) ∧
  w.cell? ⟨B, 4, none⟩ = some (.string s4) ∧ w.cell? ⟨B, 5, none⟩ = some (.string s5) ∧ w.cell? ⟨B, 6, none⟩ = some (.string s6) ∧ w.cell? ⟨B, 7, none⟩ = some (.string s7)
theorem kbox_first (w : World) (s0 s1 s2 s3 s4 s5 s6 s7 : ByteArray) : KBox (w.alloc (.cells #[.string s0, .string s1, .string s2, .string s3, .string s4, .string s5, .string s6, .string s7] 23)) w.heap.size s0 s1 s2 s3 s4 s5 s6 s7 := by
  refine ⟨by simp, ?_, ?_, ?_, ?_, ?_, ?_, ?_, ?_⟩ <;> simp
theorem KBox.below {w w' : World} {B : Nat} {s0 s1 s2 s3 s4 s5 s6 s7 : ByteArray} (h : KBox w B s0 s1 s2 s3 s4 s5 s6 s7) (hb : Below w.heap.size w w') : KBox w' B s0 s1 s2 s3 s4 s5 s6 s7 := by
  obtain ⟨h, h0, h1, h2, h3, h4, h5, h6, h7⟩ := h
  have hs := hb.size
  have e : ∀ o, w'.cell? ⟨B, o, none⟩ = w.cell? ⟨B, o, none⟩ := fun o => hb.cell (p := ⟨B, o, none⟩) h
  exact ⟨by omega, (e 0).trans h0, (e 1).trans h1, (e 2).trans h2, (e 3).trans h3, (e 4).trans h4, (e 5).trans h5, (e 6).trans h6, (e 7).trans h7⟩

theorem bytesOf_nums (xs : List Int) (h : ∀ c ∈ xs, 0 ≤ c ∧ c ≤ 255) : bytesOf (strOfNums xs) = xs := by
  unfold bytesOf
  rw [strOfNums_data, List.map_map]
  conv => rhs; rw [← List.map_id xs]
  apply List.map_congr_left
  intro c hc
  have := h c hc
  simp only [Function.comp, id, UInt8.toNat_ofNat']
  omega

/-- append within the capacity, as one step of a region that draws -/
theorem step_append_fits {P : Program} {ops : Array Oper} {o : Oper} {a : Act} {w : World} {K : Act → World → Prop} {Q : Exit → Act → World → Prop} {E : Prop}
    (hg : o.guard = none) (s x : Operand) (t : TypeId) (hop : o.op = Op.call { callee := Callee.builtin Builtin.append, args := #[s, x], argTypes := #[t, t] })
    (base : Nat) (e : TypeId) (i : TypeInfo) (size : Nat) (h1 : P.underlying t = some (.slice e)) (h2 : P.info? e = some i) (h4 : i.size = size)
    (g k cap : Nat) (xs : List Value) (hs : a.eval s = .slice (some ⟨g, 0, none⟩) k cap) (hown : w.ownsRow base e size (.slice (some ⟨g, 0, none⟩) k cap) k xs)
    (ad : Addr) (m c : Nat) (news : List Value) (hx : a.eval x = .slice (some ad) m c) (hn : news.length = m * size) (hc : ∀ j u, news[j]? = some u → w.cell? (ad.add j) = some u) (h1c : ∀ u ∈ news, u.oneCell' = true)
    (hroom : k + m ≤ cap)
    (hK : ∀ w', w'.ownsRow base e size (.slice (some ⟨g, 0, none⟩) (k + m) cap) (k + m) (xs ++ news) → w.grownBy w' (some g) → K (a.put o.dst (.slice (some ⟨g, 0, none⟩) (k + m) cap)) w') :
    if Region.wanted o (yielded ops a.tmps) = true then Oper.wp P o a w K Q else E := by
  have hw : Region.wanted o (yielded ops a.tmps) = true := by simp [Region.wanted, hg]
  rw [if_pos hw]
  obtain ⟨w', hrun, r1, r2⟩ := run_append_fits (P := P) w base t o.type e i size h1 h2 h4 g k cap xs hown ad m c news hn hc h1c hroom
  unfold Oper.wp
  simp [execOp, hop, resolve, invoke, builtin, hs, hx, hrun, Result.andThen]
  exact hK w' r1 r2

theorem cell_three_new (w : World) (x y z : Value) (t : TypeId) : ∀ j u, [x, y, z][j]? = some u → (w.alloc (.cells #[x, y, z] t)).cell? ((⟨w.heap.size, 0, none⟩ : Addr).add j) = some u := by
  intro j u hj
  match j, hj with
  | 0, hj => simp at hj; subst hj; simp [Addr.add]
  | 1, hj => simp at hj; subst hj; simp [Addr.add]
  | 2, hj => simp at hj; subst hj; simp [Addr.add]

/-- the encoder's row -/
def ERel (w wr : World) (G cap : Nat) (out : List Int) : Prop :=
  wr.ownsRow G 5 1 (.slice (some ⟨G, 0, none⟩) out.length cap) out.length (out.map (Value.int .u8)) ∧ Below G w wr ∧ G < wr.heap.size
theorem ERel.push {w wr w1 : World} {G cap m : Nat} {out : List Int} {o : Obj} (h : ERel w wr G cap out) (xs : List Int) (hm : xs.length = m)
    (hown : w1.ownsRow G 5 1 (.slice (some ⟨G, 0, none⟩) (out.length + m) cap) (out.length + m) (out.map (Value.int .u8) ++ xs.map (Value.int .u8))) (hg : (wr.alloc o).grownBy w1 (some G)) : ERel w w1 G cap (out ++ xs) := by
  obtain ⟨h1, h2, h3⟩ := h
  have hs := hg.size
  simp at hs
  refine ⟨?_, (h2.alloc (by omega) _).grown hg (by simp; omega) (by simp), by omega⟩
  rw [List.length_append, hm, List.map_append]
  exact hown

end Go.Proofs.Qxb6604321a
