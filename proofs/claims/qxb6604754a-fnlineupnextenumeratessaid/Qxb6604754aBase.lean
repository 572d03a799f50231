import Derived.Test.Qxb6604754aRows
import Derived.Test.Qxb6604754aPlain
import Derived.WalkKit
import Derived.WalkSpells
import Derived.WalkLawsBesides
import Derived.Deep.QuietTactic
import Derived.BigQuiet
import Derived.RegionTactic
import Derived.BigRegion
import Derived.Deep.RegionWith
import Derived.Deep.RegionLaw
import Derived.Deep.RegionHeld3
import Derived.Handy
namespace Go.Proofs.Qxb6604754a
open Go.RowKit

theorem hide {p : Prop} (h : p) : Hid p := h

/-- the world has grown: nothing that was there has turned -/
def Gr (w w' : World) : Prop := Below w.heap.size w w'
theorem Gr.refl (w : World) : Gr w w := Below.refl _ _
theorem Gr.trans {a b c : World} (h : Gr a b) (k : Gr b c) : Gr a c := Below.trans h (Below.mono k h.size)
theorem Gr.drew {a b : World} (h : Gr a b) : Gr a b.drew := Below.drew h
theorem Gr.drewN {a b : World} (h : Gr a b) : ∀ n, Gr a (b.drewN n)
  | 0 => h
  | n + 1 => by
    have := (h.drew).drewN n
    rwa [show b.drew = b.drewN 1 from rfl, World.drewN_drewN, Nat.add_comm] at this
theorem Gr.cell {w w' : World} (h : Gr w w') {p : Addr} {v : Value} (hp : w.cell? p = some v) : w'.cell? p = some v :=
  (Below.cell h (World.block_lt_of_cell? w _ hp)).trans hp

/-! ### floats in the walk -/
def nanw (x y t : Nat) : Nat := Question.cut (.nanBits .f64 x y) t
theorem run_float_nan (P : Program) (w : World) (t : TypeId) (x y : Nat) (h : D.add x y = none) : (binOp .add t (.float .f64 x) (.float .f64 y)).run P w = .ok (.float .f64 (nanw x y (w.tape w.drawn (.nanBits .f64 x y)))) w.drew := by
  have h' : FloatKind.f64.format.add x y = none := h
  simp [binOp, Op.floatArith, h', Question.forced, nanw]
theorem nanw_nan (x y t : Nat) : ¬ nn D (nanw x y t) := by
  have e0 : nanw x y t = (t % 2) * 9223372036854775808 + 9218868437227405312 + 1 + (t / 2) % 4503599627370495 := rfl
  unfold nn rung
  rw [e0]
  have e1 : D.infRung = 9218868437227405312 := by decide
  have e2 : D.signWeight = 9223372036854775808 := by decide
  rw [e1, e2]
  have h1 : t % 2 = 0 ∨ t % 2 = 1 := by omega
  have h2 : t / 2 % 4503599627370495 < 4503599627370495 := Nat.mod_lt _ (by omega)
  generalize t / 2 % 4503599627370495 = c at *
  rcases h1 with h | h <;> rw [h] <;> omega
theorem nanw_order (x y t e : Nat) : FloatKind.f64.format.order (nanw x y t) e = none := order_nan D hD _ _ (.inl (nanw_nan x y t))


set_option maxHeartbeats 1000000 in
theorem less_any (s1 s2 : Int) (e1 e2 : Nat) (w : World) : Calls Try.prog 14 #[.int .i64 s1, .float .f64 e1, .int .i64 s2, .float .f64 e2] w fun e w' => e = .returned (.bool (less (s1, e1) (s2, e2))) ∧ w' = w := by
  unfold less flt
  by_cases h1 : s1 < s2
  · go_enter Try.func14, Try.ntmps14
    go_wp2
    go_ret
    simp [h1]
  · by_cases h2 : s1 = s2
    · go_enter Try.func14, Try.ntmps14
      go_wp2
      go_ret
      simp
      rfl
    · go_enter Try.func14, Try.ntmps14
      go_wp2
      go_ret
      simp [h1, h2]

end Go.Proofs.Qxb6604754a
