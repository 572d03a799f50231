import Derived.Test.Qxb6604321aBase
import Derived.ProofKit
import Derived.OpenShut
import Derived.ShutString
import Derived.ChangeOld
import Derived.Below
namespace Go.Proofs.Qxb6604321a
open Go.ChangeShapes Go.WideShapes Go.ChangeAt Go.RowKit
open Go.ChangeMaps (open_string shut_string)

theorem own : ownKnob Try.prog.godebug = none := by kernel_rfl
theorem laidOut : laidOutB Try.prog = true := by kernel_rfl
theorem Try.cells23 : Try.prog.cellsOf 23 = 8 := by kernel_rfl
theorem Try.cells9 : Try.prog.cellsOf 9 = 1 := by kernel_rfl

theorem array8 {α : Type} {cs : Array α} (h : cs.size = 8) : ∃ c0 c1 c2 c3 c4 c5 c6 c7, cs = #[c0, c1, c2, c3, c4, c5, c6, c7] := by
  obtain ⟨l⟩ := cs
  match l, h with
  | [c0, c1, c2, c3, c4, c5, c6, c7], _ => exact ⟨c0, c1, c2, c3, c4, c5, c6, c7, rfl⟩

/-- an array of eight strings, by value -/
theorem open_kept {H : Type} {enc : TypeId × Value → H} {w : World} {base : Nat} {spare : Nat → Bool} {held : Bool} {r : Reach} {b0 : Nat} {v : Value} {d : DataW H} {p : List MemPlace}
    (hv : Value.okWide Try.prog w r b0 23 v) (h : DataW.Trod enc Try.prog w base spare held 23 v d p) :
    ∃ s0 s1 s2 s3 s4 s5 s6 s7 : ByteArray, v = .agg #[.string s0, .string s1, .string s2, .string s3, .string s4, .string s5, .string s6, .string s7] := by
  obtain ⟨cs, rfl, hsz⟩ : ∃ cs, v = .agg cs ∧ cs.size = Try.prog.cellsOf 23 := by
    unfold Value.okWide at hv
    rw [Try.underlying23] at hv
    obtain ⟨cs, h1, h2, _⟩ := hv
    exact ⟨cs, h1, h2⟩
  obtain ⟨c0, c1, c2, c3, c4, c5, c6, c7, rfl⟩ := array8 (hsz.trans Try.cells23)
  obtain ⟨fuel, hf⟩ := h
  obtain ⟨xs, m, -, -, -, hl, hx⟩ := DataW.trod_array Try.underlying23 hf
  have get : ∀ i, i < 8 → ∃ s : ByteArray, ([c0, c1, c2, c3, c4, c5, c6, c7].drop i).take 1 = [.string s] := by
    intro i hi
    have h1 := hx i hi
    rw [Try.cells9, List.getElem?_eq_getElem (by omega)] at h1
    obtain ⟨s, hs, -, -⟩ := DataW.trod_string Try.underlying9 h1
    exact ⟨s, by simpa [Value.cells] using hs⟩
  obtain ⟨s0, e0⟩ := get 0 (by omega)
  obtain ⟨s1, e1⟩ := get 1 (by omega)
  obtain ⟨s2, e2⟩ := get 2 (by omega)
  obtain ⟨s3, e3⟩ := get 3 (by omega)
  obtain ⟨s4, e4⟩ := get 4 (by omega)
  obtain ⟨s5, e5⟩ := get 5 (by omega)
  obtain ⟨s6, e6⟩ := get 6 (by omega)
  obtain ⟨s7, e7⟩ := get 7 (by omega)
  simp at e0 e1 e2 e3 e4 e5 e6 e7
  subst e0 e1 e2 e3 e4 e5 e6 e7
  exact ⟨s0, s1, s2, s3, s4, s5, s6, s7, rfl⟩

/-- a slice of bytes that came in, opened -/
theorem open_row {H : Type} {enc : TypeId × Value → H} {w : World} {base : Nat} {spare : Nat → Bool} {r : Reach} {b0 : Nat} {v : Value} {d : DataW H} {p : List MemPlace}
    (hv : Value.okWide Try.prog w r b0 22 v) (h : DataW.Trod enc Try.prog w base spare true 22 v d p) : ∃ a len cap zs, v = .slice a len cap ∧ InRow w a len cap zs := by
  obtain ⟨a, len, cap, rfl⟩ := okWide_slice Try.underlying22 hv
  obtain ⟨fuel, hf⟩ := h
  rcases open_ints Try.underlying22 Try.underlying5 (by kernel_rfl) hf with ⟨hcs, _⟩ | ⟨x, l, c, zs, hcs, _, hl, hm, hz, _, hcell, hwz⟩
  · simp [Value.cells] at hcs
    obtain ⟨rfl, rfl, rfl⟩ := hcs
    exact ⟨none, 0, 0, [], rfl, .inl ⟨rfl, rfl, rfl, rfl⟩⟩
  · simp [Value.cells] at hcs
    obtain ⟨rfl, rfl, rfl⟩ := hcs
    have hlz : len ≤ zs.length := by
      rw [hz]
      split <;> omega
    refine ⟨_, _, _, zs.take len, rfl, .inr ⟨_, rfl, hl, hm, by simp; omega, fun j hj => ?_, fun c hc => bounds_u8 (hwz c (List.mem_of_mem_take hc))⟩⟩
    rw [hcell j (by omega)]
    simp only [List.getD_eq_getElem?_getD]
    rw [List.getElem?_take_of_lt hj]

end Go.Proofs.Qxb6604321a
