import Derived.Test.Qxb6604754aBase
namespace Go.Proofs.Qxb6604754a
open Go.RowKit

/-- a bound lies at an address -/
structure BdAt (w : World) (b : Nat) (o : Nat) (bd : Bd) : Prop where
  c0 : w.cell? ⟨b, o, none⟩ = some (.int .i64 bd.size)
  c1 : w.cell? ⟨b, o + 1, none⟩ = some (.float .f64 bd.longest)
  c2 : w.cell? ⟨b, o + 2, none⟩ = some (.float .f64 bd.now)
  c3 : w.cell? ⟨b, o + 3, none⟩ = some (.float .f64 bd.fin)
theorem BdAt.gr {w w' : World} {b o : Nat} {bd : Bd} (h : BdAt w b o bd) (g : Gr w w') : BdAt w' b o bd :=
  ⟨g.cell h.c0, g.cell h.c1, g.cell h.c2, g.cell h.c3⟩

/-- a box of two cells -/
theorem box2 (w : World) (x y : Value) (t : TypeId) : Gr w (w.alloc (Obj.cells #[x, y] t)) ∧ (w.alloc (Obj.cells #[x, y] t)).cell? ⟨w.heap.size, 0, none⟩ = some x ∧ (w.alloc (Obj.cells #[x, y] t)).cell? ⟨w.heap.size, 1, none⟩ = some y := by
  refine ⟨Below.alloc (Below.refl _ _) (Nat.le_refl _) _, ?_, ?_⟩ <;> simp

set_option maxRecDepth 10000 in
set_option maxHeartbeats 4000000 in
theorem admits_any (b o : Nat) (bd : Bd) (s : Int) (e : Nat) (w : World) (h : BdAt w b o bd) :
    Calls Try.prog 24 #[.pointer (some ⟨b, o, none⟩), .agg #[.int .i64 s, .float .f64 e]] w fun en w' => en = .returned (.bool (ad bd (s, e))) ∧ Gr w w' := by
  by_cases h1 : s ≤ bd.size
  · have h1' : decide (s ≤ bd.size) = true := decide_eq_true h1
    by_cases h2 : fle D e bd.longest = true
    · have h2' : (FloatKind.f64.format.order e bd.longest == some Ordering.lt || FloatKind.f64.format.order e bd.longest == some Ordering.eq) = true := h2
      cases h3 : D.add bd.now e with
      | none =>
        have hr := fun w => run_float_nan Try.prog w 23 bd.now e h3
        have e1 : ad bd (s, e) = false := by unfold ad admW; simp [h1, h2, h3]
        rw [e1]
        go_enter Try.func24, Try.ntmps24
        go_wp2
        obtain ⟨g, n0, n1⟩ := box2 w (.int .i64 s) (.float .f64 e) 44
        obtain ⟨w1, hw⟩ : ∃ w1, w1 = w.alloc (Obj.cells #[.int .i64 s, .float .f64 e] 44) := ⟨_, rfl⟩
        rw [← hw] at g n0 n1 ⊢
        clear hw
        obtain ⟨c0, c1, c2, c3⟩ := h.gr g
        clear h
        go_region_held (fun w' => w'.cell? ⟨b, o, none⟩ = some (.int .i64 bd.size) ∧ w'.cell? ⟨b, o + 1, none⟩ = some (.float .f64 bd.longest) ∧ w'.cell? ⟨b, o + 2, none⟩ = some (.float .f64 bd.now) ∧ w'.cell? ⟨b, o + 3, none⟩ = some (.float .f64 bd.fin) ∧ w'.cell? ⟨w.heap.size, 0, none⟩ = some (.int .i64 s) ∧ w'.cell? ⟨w.heap.size, 1, none⟩ = some (.float .f64 e)) (go_keep) (fail)
        simp only [nanw_order]
        go_wp2
        go_ret
        exact ⟨rfl, g.drew.drew⟩
      | some r =>
        have hr := fun w => run_float_arith (P := Try.prog) w .add 23 .f64 bd.now e r h3
        have e1 : ad bd (s, e) = fle D r bd.fin := by unfold ad admW; simp [h1, h2, h3]
        rw [e1]
        go_enter Try.func24, Try.ntmps24
        go_wp2
        obtain ⟨g, n0, n1⟩ := box2 w (.int .i64 s) (.float .f64 e) 44
        obtain ⟨w1, hw⟩ : ∃ w1, w1 = w.alloc (Obj.cells #[.int .i64 s, .float .f64 e] 44) := ⟨_, rfl⟩
        rw [← hw] at g n0 n1 ⊢
        clear hw
        obtain ⟨c0, c1, c2, c3⟩ := h.gr g
        clear h
        go_quiet (fail)
        go_wp2
        go_ret
        exact ⟨rfl, g.drewN _⟩
    · have h2' : (FloatKind.f64.format.order e bd.longest == some Ordering.lt || FloatKind.f64.format.order e bd.longest == some Ordering.eq) = false := Bool.eq_false_iff.2 h2
      have e1 : ad bd (s, e) = false := by unfold ad admW; simp [h2]
      rw [e1]
      go_enter Try.func24, Try.ntmps24
      go_wp2
      obtain ⟨g, n0, n1⟩ := box2 w (.int .i64 s) (.float .f64 e) 44
      obtain ⟨w1, hw⟩ : ∃ w1, w1 = w.alloc (Obj.cells #[.int .i64 s, .float .f64 e] 44) := ⟨_, rfl⟩
      rw [← hw] at g n0 n1 ⊢
      clear hw
      obtain ⟨c0, c1, c2, c3⟩ := h.gr g
      clear h
      go_quiet (fail)
      go_wp2
      go_ret
      exact ⟨rfl, g.drewN _⟩
  · have e1 : ad bd (s, e) = false := by unfold ad; simp [h1]
    have h1' : decide (s ≤ bd.size) = false := decide_eq_false h1
    rw [e1]
    go_enter Try.func24, Try.ntmps24
    go_wp2
    obtain ⟨g, n0, n1⟩ := box2 w (.int .i64 s) (.float .f64 e) 44
    obtain ⟨w1, hw⟩ : ∃ w1, w1 = w.alloc (Obj.cells #[.int .i64 s, .float .f64 e] 44) := ⟨_, rfl⟩
    rw [← hw] at g n0 n1 ⊢
    clear hw
    obtain ⟨c0, c1, c2, c3⟩ := h.gr g
    clear h
    go_quiet (fail)
    go_wp2
    go_ret
    exact ⟨rfl, g.drewN _⟩

theorem box3 (w : World) (x y z : Value) (t : TypeId) : Gr w (w.alloc (Obj.cells #[x, y, z] t)) ∧ (w.alloc (Obj.cells #[x, y, z] t)).cell? ⟨w.heap.size, 0, none⟩ = some x ∧ (w.alloc (Obj.cells #[x, y, z] t)).cell? ⟨w.heap.size, 1, none⟩ = some y ∧ (w.alloc (Obj.cells #[x, y, z] t)).cell? ⟨w.heap.size, 2, none⟩ = some z := by
  refine ⟨Below.alloc (Below.refl _ _) (Nat.le_refl _) _, ?_, ?_, ?_⟩ <;> simp

set_option maxRecDepth 10000 in
set_option maxHeartbeats 4000000 in
theorem admitted_any (bd : Bd) (x : Slt) (w : World) :
    Calls Try.prog 10 #[.agg #[.int .i64 x.1, .int .i64 x.2.1, .float .f64 x.2.2], .int .i64 bd.size, .float .f64 bd.longest, .float .f64 bd.now, .float .f64 bd.fin] w fun en w' => en = .returned (.bool (decide (0 ≤ x.1) && ad bd x.2)) ∧ Gr w w' := by
  obtain ⟨j, s, e⟩ := x
  obtain ⟨g, n0, n1, n2⟩ := box3 w (.int .i64 j) (.int .i64 s) (.float .f64 e) 40
  by_cases h0 : 0 ≤ j
  · by_cases h1 : s ≤ bd.size
    · by_cases h2 : fle D e bd.longest = true
      · have h2' : (FloatKind.f64.format.order e bd.longest == some Ordering.lt || FloatKind.f64.format.order e bd.longest == some Ordering.eq) = true := h2
        cases h3 : D.add bd.now e with
        | none =>
          have hr := fun w => run_float_nan Try.prog w 23 bd.now e h3
          have e1 : ad bd (s, e) = false := by unfold ad admW; simp [h1, h2, h3]
          simp only [e1, Bool.and_false]
          go_enter Try.func10, Try.ntmps10
          go_wp2
          go_ret
          simp only [nanw_order]
          exact ⟨rfl, g.drew⟩
        | some r =>
          have hr := fun w => run_float_arith (P := Try.prog) w .add 23 .f64 bd.now e r h3
          have e1 : ad bd (s, e) = fle D r bd.fin := by unfold ad admW; simp [h1, h2, h3]
          simp only [e1, h0, decide_true, Bool.true_and]
          go_enter Try.func10, Try.ntmps10
          go_wp2
          go_ret
          exact ⟨rfl, g⟩
      · have h2' : (FloatKind.f64.format.order e bd.longest == some Ordering.lt || FloatKind.f64.format.order e bd.longest == some Ordering.eq) = false := Bool.eq_false_iff.2 h2
        have e1 : ad bd (s, e) = false := by unfold ad admW; simp [h2]
        simp only [e1, Bool.and_false]
        go_enter Try.func10, Try.ntmps10
        go_wp2
        go_ret
        exact ⟨rfl, g⟩
    · have e1 : ad bd (s, e) = false := by unfold ad; simp [h1]
      simp only [e1, Bool.and_false]
      go_enter Try.func10, Try.ntmps10
      go_wp2
      go_ret
      exact ⟨rfl, g⟩
  · simp only [h0, decide_false, Bool.false_and]
    go_enter Try.func10, Try.ntmps10
    go_wp2
    go_ret
    exact ⟨rfl, g⟩

end Go.Proofs.Qxb6604754a
