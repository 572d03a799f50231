import Derived.Test.Qxb6604321aRtlW
import Derived.Deep.RegionWith
import Derived.ChangeKeysEq
namespace Go.Proofs.Qxb6604321a
open Go.RowKit

theorem eq_step (d : Nat) (xs : Array Value) (w : World) (is : List Nat) (h : ∀ i ∈ is, ∃ s : ByteArray, (part 9 xs (i * 1)).run Try.prog w = .ok (.string s) w) : (Op.eqItems (d + 1) 9 1 xs xs is).run Try.prog w = .ok true w := by
  induction is with
  | nil => simp [Op.eqItems]
  | cons i is ih =>
    obtain ⟨s, hs⟩ := h i (by simp)
    have he := run_equalIn_string (P := Try.prog) w d 9 s s Try.underlying9
    simp only [Op.eqItems, Sem.run_bind, hs, he, Result.andThen_ok, beq_self_eq_true, Bool.not_true, Bool.false_eq_true, if_false]
    exact ih (fun j hj => h j (by simp [hj]))

theorem Try.info9 : (Try.prog.info? 9).isSome = true := by kernel_rfl
theorem eq_kept (s0 s1 s2 s3 s4 s5 s6 s7 : ByteArray) (w : World) : (Op.equalIn 10000 23 (.agg #[.string s0, .string s1, .string s2, .string s3, .string s4, .string s5, .string s6, .string s7]) (.agg #[.string s0, .string s1, .string s2, .string s3, .string s4, .string s5, .string s6, .string s7])).run Try.prog w = .ok true w := by
  obtain ⟨i, hi⟩ := Option.isSome_iff_exists.1 Try.info9
  rw [run_equalIn_array w 9999 _ _ Try.underlying23 hi, show Try.prog.cellsOf 9 = 1 from by kernel_rfl]
  refine eq_step 9998 _ w _ fun j hj => ?_
  have : j = 0 ∨ j = 1 ∨ j = 2 ∨ j = 3 ∨ j = 4 ∨ j = 5 ∨ j = 6 ∨ j = 7 := by simp at hj; omega
  rcases this with rfl | rfl | rfl | rfl | rfl | rfl | rfl | rfl
  · exact ⟨s0, by kernel_rfl⟩
  · exact ⟨s1, by kernel_rfl⟩
  · exact ⟨s2, by kernel_rfl⟩
  · exact ⟨s3, by kernel_rfl⟩
  · exact ⟨s4, by kernel_rfl⟩
  · exact ⟨s5, by kernel_rfl⟩
  · exact ⟨s6, by kernel_rfl⟩
  · exact ⟨s7, by kernel_rfl⟩

set_option maxHeartbeats 400000 in
theorem kept_any (U : Nat) (v : Value) (s0 s1 s2 s3 s4 s5 s6 s7 : ByteArray) (w : World) (h : UBlk w U v (keptV s0 s1 s2 s3 s4 s5 s6 s7)) :
    Calls Try.prog 16 #[.pointer (some ⟨U, 0, none⟩)] w fun e w' => e = .returned (.agg #[.string s0, .string s1, .string s2, .string s3, .string s4, .string s5, .string s6, .string s7]) ∧ Below w.heap.size w w' := by
  have hU := h.lt
  have c0 : w.cell? ⟨U, 1, none⟩ = some (.string s0) := h.cellS 0
  have c1 : w.cell? ⟨U, 2, none⟩ = some (.string s1) := h.cellS 1
  have c2 : w.cell? ⟨U, 3, none⟩ = some (.string s2) := h.cellS 2
  have c3 : w.cell? ⟨U, 4, none⟩ = some (.string s3) := h.cellS 3
  have c4 : w.cell? ⟨U, 5, none⟩ = some (.string s4) := h.cellS 4
  have c5 : w.cell? ⟨U, 6, none⟩ = some (.string s5) := h.cellS 5
  have c6 : w.cell? ⟨U, 7, none⟩ = some (.string s6) := h.cellS 6
  have c7 : w.cell? ⟨U, 8, none⟩ = some (.string s7) := h.cellS 7
  clear h
  go_enter Try.func16, Try.ntmps16
  go_wp2
  go_returns
  exact ⟨rfl, (Below.refl _ _).alloc (Nat.le_refl _) _⟩

-- the size guard of the other law
set_option maxHeartbeats 400000 in
theorem bytes7 (a : Option Addr) (la ca : Nat) (s : ByteArray) (s0 s1 s2 s3 s4 s5 s6 s7 : ByteArray) (x : Bool) (w : World) :
    Calls Try.prog 7 #[.slice a la ca, .agg #[.string s0, .string s1, .string s2, .string s3, .string s4, .string s5, .string s6, .string s7], .string s, .bool x] w fun e w' => Ans (la ≤ 1048576 ∧ s.size ≤ 1048576) e ∧ Below w.heap.size w w' := by
  by_cases hla : la ≤ 1048576
  · go_enter Try.func7, Try.ntmps7
    go_wp2
    go_loopw [9, 10] (fun t i wr => ∃ (k : Nat) (z : Int), i = .int .i64 k ∧ k ≤ 8 ∧ t = .int .i64 z ∧ 0 ≤ z ∧ z ≤ 1048576 ∧ Below w.heap.size w wr ∧ ∀ j, j < 8 → ∃ q, wr.cell? ⟨w.heap.size, j, none⟩ = some (.string q)) (fun _ i _ => 8 - (intOf i).toNat)
    case atStart =>
      refine ⟨0, _, rfl, by omega, rfl, by omega, by omega, (Below.refl _ _).alloc (Nat.le_refl _) _, fun j hj => ?_⟩
      have : j = 0 ∨ j = 1 ∨ j = 2 ∨ j = 3 ∨ j = 4 ∨ j = 5 ∨ j = 6 ∨ j = 7 := by omega
      rcases this with rfl | rfl | rfl | rfl | rfl | rfl | rfl | rfl <;> simp
    case round =>
    obtain ⟨k, z, rfl, hk, rfl, hz0, hz1, hbel, hcells⟩ := hrel
    have HC := hide hcells
    clear hcells
    by_cases hlt : k < 8
    · obtain ⟨q, hq⟩ := HC.out k hlt
      by_cases hq1 : q.size ≤ 1048576
      · by_cases hsum : z + q.size ≤ 1048576
        · go_wp2
          go_roundw
          case rel => exact ⟨k + 1, _, by go_num, by omega, rfl, by omega, hsum, hbel, HC.out⟩
          case measure => simp [intOf]; omega
        · go_wp2
          go_ret
          exact ⟨ans_no, hbel⟩
      · go_wp2
        go_ret
        exact ⟨ans_no, hbel⟩
    · by_cases hlb : s.size ≤ 1048576
      · by_cases hsum : z + s.size ≤ 1048576
        · go_wp2
          go_ret
          exact ⟨ans_yes ⟨hla, hlb⟩, hbel⟩
        · go_wp2
          go_ret
          exact ⟨ans_no, hbel⟩
      · go_wp2
        go_ret
        exact ⟨ans_no, hbel⟩
  · go_enter Try.func7, Try.ntmps7
    go_wp2
    go_ret
    exact ⟨ans_no, (Below.refl _ _).alloc (Nat.le_refl _) _⟩

end Go.Proofs.Qxb6604321a
