import Derived.Test.Qxb6604754aScan
import Derived.ProofKit
import Derived.OpenShut
import Derived.ChangeOld
import Derived.Below
import Derived.Laws.Cover2
import Derived.Deep.Slices
import Derived.Deep.Strs
namespace Go.Proofs.Qxb6604754a
open Go.ChangeShapes Go.WideShapes Go.ChangeAt Go.RowKit

theorem own : ownKnob Try.prog.godebug = none := by kernel_rfl
theorem laidOut : laidOutB Try.prog = true := by kernel_rfl

theorem trod_float {H : Type} {enc : TypeId × Value → H} {P : Program} {w : World} {base : Nat} {spare : Nat → Bool} {held : Bool} {fuel : Nat} {t : TypeId} {cs : List Value} {x : DataW H × List MemPlace} {k : FloatKind}
    (ht : P.underlying t = some (.float k)) (h : DataW.trod enc P w base spare held fuel t cs = some x) : ∃ b, cs = [.float k b] := by
  cases fuel with
  | zero => simp [DataW.trod] at h
  | succ n =>
    unfold DataW.trod at h
    rw [ht] at h
    split at h <;> simp_all

/-- a slice of slots that came in, opened -/
theorem open_slots {H : Type} {enc : TypeId × Value → H} {w : World} {base : Nat} {spare : Nat → Bool} {held : Bool} {r : Reach} {b0 : Nat} {v : Value} {d : DataW H} {p : List MemPlace}
    (hv : Value.okWide Try.prog w r b0 22 v) (h : DataW.Trod enc Try.prog w base spare held 22 v d p) : ∃ a len cap sl, v = .slice a len cap ∧ len ≤ maxLen ∧ SlotsAt w a len sl := by
  obtain ⟨a, len, cap, rfl⟩ := okWide_slice Try.underlying22 hv
  obtain ⟨fuel, hf⟩ := h
  rcases Deep.open_slice Try.underlying22 hf with ⟨hcs, _⟩ | ⟨x, l, c, m, n, D, Pl, hcs, _, hl, hm, hmm, _, hx⟩
  · simp [Value.cells] at hcs
    obtain ⟨rfl, rfl, rfl⟩ := hcs
    exact ⟨none, 0, 0, [], rfl, Nat.zero_le _, rfl, fun j x hj => by simp at hj⟩
  · simp [Value.cells] at hcs
    obtain ⟨rfl, rfl, rfl⟩ := hcs
    have hlm : len ≤ m := by rw [hmm]; split <;> omega
    have hc40 : Try.prog.cellsOf 40 = 3 := by kernel_rfl
    have hc3 : Try.prog.cellsOf 3 = 1 := by kernel_rfl
    have hc23 : Try.prog.cellsOf 23 = 1 := by kernel_rfl
    have each : ∀ i, i < len → ∃ q : Slt, w.cell? (x.add (i * 3)) = some (.int .i64 q.1) ∧ w.cell? (x.add (i * 3 + 1)) = some (.int .i64 q.2.1) ∧ w.cell? (x.add (i * 3 + 2)) = some (.float .f64 q.2.2) := by
      intro i hi
      obtain ⟨cs, h1, h2⟩ := hx i (by omega)
      obtain ⟨y0, y1, y2, n', -, hlen, g0, g1, g2⟩ := Deep.trod_struct3 Try.underlying40 h2
      rw [hc40] at h1 hlen
      obtain ⟨_, _, hcell⟩ := World.cells?_some h1
      match cs, hlen with
      | [v0, v1, v2], _ =>
        simp [hc3, hc23] at g0 g1 g2
        obtain ⟨k0, e0, -, -⟩ := DataW.trod_int Try.underlying3 g0
        obtain ⟨k1, e1, -, -⟩ := DataW.trod_int Try.underlying3 g1
        obtain ⟨k2, e2⟩ := trod_float Try.underlying23 g2
        simp at e0 e1 e2
        have c0 := hcell 0 (by omega)
        have c1 := hcell 1 (by omega)
        have c2 := hcell 2 (by omega)
        rw [Deep.add_add] at c0 c1 c2
        exact ⟨(k0, k1, k2), by simpa [e0] using c0, by simpa [e1] using c1, by simpa [e2] using c2⟩
    obtain ⟨f, hf2⟩ := Deep.choose_lt each
    refine ⟨_, _, _, (List.range len).map f, rfl, by omega, by simp, fun j y hj => ?_⟩
    have hjl : j < len := by
      have := (List.getElem?_eq_some_iff.1 hj).1
      simpa using this
    have hy : y = f j := by simp [hjl] at hj; exact hj.symm
    subst hy
    obtain ⟨h1, h2, h3⟩ := hf2 j hjl
    obtain ⟨b, off, spot⟩ := x
    have hspot : spot = none := by simpa [Addr.add] using World.cell?_spot (hf2 0 (by omega)).1
    subst hspot
    rw [Addr.add_lit] at h1 h2 h3
    exact ⟨b, off, rfl, h1, by rw [Nat.add_assoc]; exact h2, by rw [Nat.add_assoc]; exact h3⟩

end Go.Proofs.Qxb6604754a
