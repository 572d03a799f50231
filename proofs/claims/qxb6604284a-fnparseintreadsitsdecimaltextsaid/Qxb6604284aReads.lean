/-
  'Rows.FnParseIntReadsItsDecimalTextSaid': the frame is the seat's given shell; the walk is typed here.
-/
import Derived.Test.Qxb6604284aRows
import Derived.Test.Qxb6604284aItoa
import Derived.WalkKit
import Derived.ProofKit
import Derived.OpenShut
import Derived.ShutString
namespace Go.Proofs.Qxb6604284a.fnParseIntReadsItsDecimalText
open Go.ChangeShapes Go.WideShapes Go.ChangeAt Go.RowKit
open Go.ChangeMaps (open_string shut_string)
set_option linter.unusedVariables false      -- a walk need not use every 'w<i>' (that an integer argument fits its kind)

theorem own : ownKnob Try.prog.godebug = none := by kernel_rfl

theorem walk_pos (x : Int) (h1 : 0 ≤ x) (h2 : x ≤ 9223372036854775807) (w : World) :
    Calls Try.prog 6 #[.int .i64 x] w fun e w' => e = .returned (.bool true) ∧ Below w.heap.size w w' := by
  go_enter Try.func6, Try.ntmps6
  go_wp2_with (first
    | (go_at_call 19; refine (itoa_pos x _ h1 h2).mono ?_; rintro e w1 ⟨g, n, rfl, zs, hb, hl, hbel⟩; have R := hide (read_pos zs x h2 hl); clear hl)
    | (go_at_call 17; refine (zzparse_any _ _ _ zs _ hb).mono ?_; rintro e w2 ⟨rfl, m, rfl⟩; rw [R.out.1, R.out.2]))
  go_ret
  exact ⟨by simp, below_drewN hbel _⟩

theorem walk_neg (x : Int) (h1 : -9223372036854775808 ≤ x) (h2 : x < 0) (w : World) :
    Calls Try.prog 6 #[.int .i64 x] w fun e w' => e = .returned (.bool true) ∧ Below w.heap.size w w' := by
  go_enter Try.func6, Try.ntmps6
  go_wp2_with (first
    | (go_at_call 19; refine (itoa_neg x _ h1 h2).mono ?_; rintro e w1 ⟨g, n, rfl, zs, hb, hl, hbel⟩; have R := hide (read_neg zs x h1 hl); clear hl)
    | (go_at_call 17; refine (zzparse_any _ _ _ (45 :: zs) _ hb).mono ?_; rintro e w2 ⟨rfl, m, rfl⟩; rw [R.out.1, R.out.2]))
  go_ret
  exact ⟨by simp, below_drewN hbel _⟩

theorem walk (a0 : Int) (w0 : (Lit.int .i64 a0).wf = true) (w : World) :
    Calls Try.prog 6 #[.int .i64 a0] w fun e w' => e = .returned (.bool true) ∧ Below w.heap.size w w' := by
  have hb := bounds_i64 w0
  by_cases h : 0 ≤ a0
  · exact walk_pos a0 h (by omega) w
  · exact walk_neg a0 (by omega) (by omega) w

/-! ### THE ROW's STEP: WRITTEN OUT: LEAVE IT -/
set_option maxRecDepth 100000 in
theorem lifted (os : Os) (started : os.Started) (H : Type) (enc : TypeId × Value → H) :
    ReturnsInHanded {} Try.checked os 6 .any (Rows.fnParseIntReadsItsDecimalTextSpec.pre6 enc Try.prog Try.f6 Rows.fnParseIntReadsItsDecimalTextRow.domain false) (Rows.fnParseIntReadsItsDecimalTextSpec.post enc Try.prog Try.f6 false true false false) := by
  refine returnsInHanded_of_change (C := Try.checked) own started (by kernel_rfl) Try.func6
    (ChangeSpec.witness6 (enc := enc) (C := Try.checked) false ⟨#[], #[.int .i64 0], []⟩ 8 (by kernel_rfl) (by kernel_rfl) (by kernel_rfl) (by kernel_rfl)) ?_
  intro W base args ds gs before hval0 hW hcnd _
  have hval : ∀ (j : Nat) t v, Try.f6.params[j]? = some t → args[j]? = some v → Value.okWide Try.prog W .any base t v := hval0
  have hW' := hW
  obtain ⟨p, q, hA0, hV, rfl, hfz, hnd⟩ := hW
  have hA : DataW.TrodAll enc Try.prog W 0 (fun _ => true) true Try.f6.params.toList args.toList ds p := hA0
  rw [Try.params6] at hA hval
  obtain ⟨v0, vs0, d0, ds0, p0, q0, hargs, rfl, rfl, h0, r0⟩ := trodAll_cons hA
  obtain ⟨rfl, rfl, rfl⟩ := trodAll_nil r0
  obtain rfl : args = #[v0] := by cases args; simp_all
  obtain ⟨rfl, rfl⟩ := trodVars_none hV
  obtain ⟨a0, rfl, rfl, rfl, w0⟩ := open_int Try.underlying2 (hval 0 2 v0 rfl rfl) h0
  clear hA0 hval0
  simp only [List.append_nil] at hW'
  refine (walk a0 w0 W).mono fun e W' ⟨he, bel⟩ => ?_
  subst he
  exact ⟨_, rfl, _, _, _, [], [], [], hW', trodAll_mk1 (shut_bool Try.underlying4 _), (trodAll_cons_mk (shut_int Try.underlying2 w0) trodAll_mk0), rfl, bel.frame _, fun h => by cases h⟩

theorem over : Rows.fnParseIntReadsItsDecimalTextRow.holds Try.pinned (OpenSpec.ofChange Rows.fnParseIntReadsItsDecimalTextSpec) :=
  OpenClaim.holds_of_wide 6 Try.f6 rfl rfl rfl rfl rfl rfl rfl ⟨rfl, rfl, rfl, rfl, rfl⟩ rfl rfl rfl rfl rfl (by kernel_rfl) Try.func6 (by kernel_rfl)
    (of_decide_eq_true (by kernel_rfl)) (by unfold Func.isWrapper; first | (rw [if_pos (by decide +kernel)]; kernel_rfl) | (rw [if_neg (by decide +kernel)]; exact ⟨rfl, rfl⟩))
    (fun os started H enc _ => lifted os started H enc)

/-- ████ THE STATEMENT ████ -/
theorem proved : Rows.FnParseIntReadsItsDecimalTextSaid :=
  over
end Go.Proofs.Qxb6604284a.fnParseIntReadsItsDecimalText
