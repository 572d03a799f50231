import Derived.Test.Qxb6604493aBase
import Derived.ProofKit
import Derived.OpenShut
import Derived.ShutString
import Derived.ChangeOld
import Derived.Below
import Derived.Deep.SlicePairs
namespace Go.Proofs.Qxb6604493a
open Go.ChangeShapes Go.WideShapes Go.ChangeAt Go.RowKit
open Go.ChangeMaps (open_string shut_string)

theorem own : ownKnob Try.prog.godebug = none := by kernel_rfl
theorem laidOut : laidOutB Try.prog = true := by kernel_rfl

/-- a slice of options that came in, opened -/
theorem open_opts {H : Type} {enc : TypeId × Value → H} {w : World} {base : Nat} {spare : Nat → Bool} {held : Bool} {r : Reach} {b0 : Nat} {v : Value} {d : DataW H} {p : List MemPlace}
    (hv : Value.okWide Try.prog w r b0 22 v) (h : DataW.Trod enc Try.prog w base spare held 22 v d p) : ∃ a len cap os, v = .slice a len cap ∧ len ≤ maxLen ∧ Opts w a len os := by
  obtain ⟨a, len, cap, rfl⟩ := okWide_slice Try.underlying22 hv
  obtain ⟨fuel, hf⟩ := h
  rcases Deep.open_slice_pairs Try.underlying22 Try.underlying43 (by kernel_rfl) (by kernel_rfl) (by kernel_rfl) (by kernel_rfl) (by kernel_rfl) hf with ⟨hcs, _⟩ | ⟨x, l, c, m, n, V0, V1, D0, D1, P0, P1, hcs, _, hl, hm, hmm, _, hx⟩
  · simp [Value.cells] at hcs
    obtain ⟨rfl, rfl, rfl⟩ := hcs
    exact ⟨none, 0, 0, [], rfl, Nat.zero_le _, rfl, fun j hj => by omega⟩
  · simp [Value.cells] at hcs
    obtain ⟨rfl, rfl, rfl⟩ := hcs
    have hlm : len ≤ m := by rw [hmm]; split <;> omega
    have each : ∀ i, i < len → ∃ q : ByteArray × ByteArray, w.cell? (x.add (i * 2)) = some (.string q.1) ∧ w.cell? (x.add (i * 2 + 1)) = some (.string q.2) := by
      intro i hi
      obtain ⟨h1, h2, h3, h4⟩ := hx i (by omega)
      obtain ⟨s1, e1, -, -⟩ := DataW.trod_string Try.underlying9 h3
      obtain ⟨s2, e2, -, -⟩ := DataW.trod_string Try.underlying9 h4
      simp at e1 e2
      exact ⟨(s1, s2), by rw [h1, e1], by rw [h2, e2]⟩
    obtain ⟨f, hf2⟩ := Deep.choose_lt each
    refine ⟨_, _, _, (List.range len).map f, rfl, by omega, by simp, fun j hj => ?_⟩
    obtain ⟨h1, h2⟩ := hf2 j hj
    obtain ⟨b, off, spot⟩ := x
    have hspot : spot = none := by simpa [Addr.add] using World.cell?_spot (hf2 0 (by omega)).1
    subst hspot
    rw [Addr.add_lit] at h1 h2
    exact ⟨b, off, (f j).1, (f j).2, rfl, by simp [hj], h1, by rw [Nat.add_assoc]; exact h2⟩

end Go.Proofs.Qxb6604493a
