import Derived.Test.Qxb6604754aLaw4
import Derived.Test.Qxb6604754aOpen
namespace Go.Proofs.Qxb6604754a.fnLineupNextEnumerates
open Go.ChangeShapes Go.WideShapes Go.ChangeAt Go.RowKit

/-! ### THE ROW's STEP -/
set_option maxRecDepth 100000 in
theorem lifted (os : Os) (started : os.Started) (H : Type) (enc : TypeId × Value → H) :
    ReturnsInHanded {} Try.checked os 4 .any (Rows.fnLineupNextEnumeratesSpec.pre6 enc Try.prog Try.f4 Rows.fnLineupNextEnumeratesRow.domain false) (Rows.fnLineupNextEnumeratesSpec.post enc Try.prog Try.f4 false true false false) := by
  refine returnsInHanded_of_change (C := Try.checked) own started (by kernel_rfl) Try.func4
    (ChangeSpec.witness6 (enc := enc) (C := Try.checked) false ⟨#[], #[.slice none 0 0, .slice none 0 0, .int .i64 0, .float .f64 0, .float .f64 0, .float .f64 0], []⟩ 8 (by kernel_rfl) (by kernel_rfl) (by kernel_rfl) (by kernel_rfl)) ?_
  intro W base args ds gs before hval0 hW hcnd _
  have hval : ∀ (j : Nat) t v, Try.f4.params[j]? = some t → args[j]? = some v → Value.okWide Try.prog W .any base t v := hval0
  have hW' := hW
  obtain ⟨p, q, hA0, hV, rfl, hfz, hnd⟩ := hW
  have hA : DataW.TrodAll enc Try.prog W 0 (fun _ => true) true Try.f4.params.toList args.toList ds p := hA0
  rw [Try.params4] at hA hval
  obtain ⟨v0, vs0, d0, ds0, p0, q0, hargs, rfl, rfl, h0, r0⟩ := trodAll_cons hA
  obtain ⟨v1, vs1, d1, ds1, p1, q1, rfl, rfl, rfl, h1, r1⟩ := trodAll_cons r0
  obtain ⟨v2, vs2, d2, ds2, p2, q2, rfl, rfl, rfl, h2, r2⟩ := trodAll_cons r1
  obtain ⟨v3, vs3, d3, ds3, p3, q3, rfl, rfl, rfl, h3, r3⟩ := trodAll_cons r2
  obtain ⟨v4, vs4, d4, ds4, p4, q4, rfl, rfl, rfl, h4, r4⟩ := trodAll_cons r3
  obtain ⟨v5, vs5, d5, ds5, p5, q5, rfl, rfl, rfl, h5, r5⟩ := trodAll_cons r4
  obtain ⟨rfl, rfl, rfl⟩ := trodAll_nil r5
  obtain rfl : args = #[v0, v1, v2, v3, v4, v5] := by cases args; simp_all
  obtain ⟨rfl, rfl⟩ := trodVars_none hV
  obtain ⟨a, la, ca, A, rfl, hma, HA⟩ := open_slots (hval 0 22 v0 rfl rfl) h0
  obtain ⟨b, lb, cb, C, rfl, hmb, HC⟩ := open_slots (hval 1 22 v1 rfl rfl) h1
  obtain ⟨size, rfl, rfl, rfl, wsize⟩ := open_int Try.underlying3 (hval 2 3 v2 rfl rfl) h2
  obtain ⟨longest, rfl, rfl, rfl, wlong⟩ := open_float Try.underlying23 (hval 3 23 v3 rfl rfl) h3
  obtain ⟨now, rfl, rfl, rfl, wnow⟩ := open_float Try.underlying23 (hval 4 23 v4 rfl rfl) h4
  obtain ⟨fin, rfl, rfl, rfl, wfin⟩ := open_float Try.underlying23 (hval 5 23 v5 rfl rfl) h5
  have lt0 : ∀ x ∈ p0, x.block < W.heap.size := by obtain ⟨m, hm⟩ := h0; exact DataW.trod_lt m _ _ _ hm
  have lt1 : ∀ x ∈ p1, x.block < W.heap.size := by obtain ⟨m, hm⟩ := h1; exact DataW.trod_lt m _ _ _ hm
  clear hA0 hval0
  refine (law4 a b la lb ca cb A C ⟨size, longest, now, fin⟩ W hma hmb HA HC).mono fun e W' ⟨he, bel⟩ => ?_
  subst he
  exact ⟨_, rfl, _, _, _, [], _, [], hW', trodAll_mk1 (shut_bool Try.underlying4 _),
    (trodAll_cons_mk (Below.trod laidOut (by kernel_rfl) (of_decide_eq_true (by kernel_rfl)) h0 bel lt0) (trodAll_cons_mk (Below.trod laidOut (by kernel_rfl) (of_decide_eq_true (by kernel_rfl)) h1 bel lt1)
      (trodAll_cons_mk (shut_int Try.underlying3 wsize) (trodAll_cons_mk (shut_float Try.underlying23 wlong) (trodAll_cons_mk (shut_float Try.underlying23 wnow) (trodAll_cons_mk (shut_float Try.underlying23 wfin) trodAll_mk0)))))), rfl, bel.frame _, fun h => by cases h⟩

theorem over : Rows.fnLineupNextEnumeratesRow.holds Try.pinned (OpenSpec.ofChange Rows.fnLineupNextEnumeratesSpec) :=
  OpenClaim.holds_of_wide 4 Try.f4 rfl rfl rfl rfl rfl rfl rfl ⟨rfl, rfl, rfl, rfl, rfl⟩ rfl rfl rfl rfl rfl (by kernel_rfl) Try.func4 (by kernel_rfl)
    (of_decide_eq_true (by kernel_rfl)) (by unfold Func.isWrapper; first | (rw [if_pos (by decide +kernel)]; kernel_rfl) | (rw [if_neg (by decide +kernel)]; exact ⟨rfl, rfl⟩))
    (fun os started H enc _ => lifted os started H enc)

/-- the statement -/
theorem proved : Rows.FnLineupNextEnumeratesSaid := over
end Go.Proofs.Qxb6604754a.fnLineupNextEnumerates
