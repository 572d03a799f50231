import Derived.Test.Qxb6604284aItoa
namespace Go.Proofs.Qxb6604284a
open Go.RowKit

/-- the clone's block, behind w's: its first k cells are copied -/
def Cl (w wr : World) (len k : Nat) (zs : List Int) : Prop :=
  Below w.heap.size w wr ∧ (∀ j, j < len → wr.frozen? ⟨w.heap.size, j, none⟩ = false) ∧ (∀ j, j < len → ∃ v, wr.cell? ⟨w.heap.size, j, none⟩ = some (.int .u8 v)) ∧
  (∀ j, j < k → wr.cell? ⟨w.heap.size, j, none⟩ = some (.int .u8 (zs.getD j 0)))

theorem cl_first {w w1 : World} {len : Nat} {zs : List Int} (hown : w1.ownsRow w.heap.size 5 1 (.slice (some ⟨w.heap.size, 0, none⟩) len len) len (madeCells (Value.int .u8 0).cells (len * 1)).toList) (hg : w.grownBy w1 none) : Cl w w1 len 0 zs := by
  refine ⟨(Below.refl _ _).grown hg (Nat.le_refl _) (by simp), fun j hj => hown.frozenAt j, fun j hj => ⟨0, ?_⟩, fun j hj => by omega⟩
  rw [hown.cellAt j (by omega), show (Value.int .u8 0).cells = #[Value.int .u8 0] from rfl, toList_madeCells_one]
  simp [hj]

theorem Cl.step {w wr : World} {len k : Nat} {zs : List Int} (h : Cl w wr len k zs) (hk : k < len) (c : Int) (hc : c = zs.getD k 0) : Cl w (wr.setCell ⟨w.heap.size, k, none⟩ (.int .u8 c)) len (k + 1) zs := by
  obtain ⟨h1, h2, h3, h4⟩ := h
  obtain ⟨v0, hv0⟩ := h3 k hk
  refine ⟨h1.setCell (Nat.le_refl _) _, fun j hj => by simpa using h2 j hj, fun j hj => ?_, fun j hj => ?_⟩
  · by_cases e : j = k
    · subst e; exact ⟨c, World.cell?_setCell_same _ _ _ hv0⟩
    · rw [World.cell?_setCell_other _ _ _ _ (by simp)]; exact h3 j hj
  · by_cases e : j = k
    · subst e; rw [World.cell?_setCell_same _ _ _ hv0, hc]
    · rw [World.cell?_setCell_other _ _ _ _ (by simp)]; exact h4 j (by omega)

theorem Cl.bytes {w wr : World} {len : Nat} {zs : List Int} (h : Cl w wr len len zs) (hz : zs.length = len) (hm : len ≤ maxLen) (hb : ∀ c ∈ zs, 0 ≤ c ∧ c ≤ 255) : Bytes wr (some ⟨w.heap.size, 0, none⟩) len len zs :=
  ⟨hz, Nat.le_refl _, hm, hb, .inr ⟨w.heap.size, 0, rfl, fun j hj => by rw [Nat.zero_add]; exact h.2.2.2 j hj⟩⟩

set_option maxHeartbeats 400000 in
theorem clone_nil (w : World) : Calls Try.prog 8 #[.slice none 0 0] w fun e w' => e = .returned (.slice none 0 0) ∧ w' = w := by
  have hnil := fun w' => Lib.run_eql_slice_nil (P := Try.prog) w' 22 5 none 0 0 0 0 Try.underlying22
  go_enter Try.func8, Try.ntmps8
  go_wp2
  go_ret
  exact ⟨rfl, rfl⟩

set_option maxHeartbeats 400000 in
theorem clone_some (b off len cap : Nat) (zs : List Int) (w : World) (hl : len ≤ 1048576) (hc : ∀ j, j < len → w.cell? ⟨b, off + j, none⟩ = some (.int .u8 (zs.getD j 0))) :
    Calls Try.prog 8 #[.slice (some ⟨b, off, none⟩) len cap] w fun e w' => e = .returned (.slice (some ⟨w.heap.size, 0, none⟩) len len) ∧ Cl w w' len len zs := by
  obtain ⟨i0, hi, hz0, hz1, hz2⟩ := info_parts Try.info5
  have hnil := fun w' => Lib.run_eql_slice_nil (P := Try.prog) w' 22 5 (some ⟨b, off, none⟩) len cap 0 0 Try.underlying22
  go_enter Try.func8, Try.ntmps8
  go_wp2_with (at_make; refine wpList_make_full _ rfl _ _ 22 rfl w.heap.size 5 i0 (.int .u8 0) 1 Try.underlying22 hi hz0 hz1 .i64 .i64 len len len rfl rfl rfl rfl (by rw [hz2]; omega) (by unfold maxLen; omega) (Nat.le_refl _) ?_; intro w1 hown hgr)
  go_loopw [4] (fun i wr => ∃ k : Nat, k ≤ len ∧ i = .int .i64 k ∧ Cl w wr len k zs) (fun i _ => len - (intOf i).toNat)
  case atStart => exact ⟨0, Nat.zero_le _, rfl, cl_first hown hgr⟩
  case round =>
    obtain ⟨k, hk, rfl, hcl⟩ := hrel
    clear hown hgr hnil
    by_cases hlt : k < len
    · have hsrc := hc k hlt
      have hb : b < w.heap.size := World.block_lt_of_cell? w _ hsrc
      have hcell : wr.cell? ⟨b, off + k, none⟩ = some (.int .u8 (zs.getD k 0)) := (hcl.1.cell (by exact hb)).trans hsrc
      obtain ⟨c, hcz⟩ : ∃ c, c = zs.getD k 0 := ⟨_, rfl⟩
      rw [← hcz] at hcell
      obtain ⟨v0, hv0⟩ := hcl.2.2.1 k hlt
      have hfr := hcl.2.1 k hlt
      have HS := hide (hcl.step hlt c hcz)
      clear hcz hcl hsrc hc
      go_wp2
      go_roundw
      case rel => exact ⟨k + 1, by omega, by go_num, HS.out⟩
      case measure => simp [intOf]; omega
    · obtain rfl : k = len := by omega
      clear hc
      go_wp2
      go_ret
      exact ⟨rfl, hcl⟩

set_option maxHeartbeats 400000 in
theorem clone_empty (x : Addr) (cap : Nat) (w : World) :
    Calls Try.prog 8 #[.slice (some x) 0 cap] w fun e w' => e = .returned (.slice (some ⟨w.heap.size, 0, none⟩) 0 0) ∧ Cl w w' 0 0 [] := by
  obtain ⟨i0, hi, hz0, hz1, hz2⟩ := info_parts Try.info5
  have hnil := fun w' => Lib.run_eql_slice_nil (P := Try.prog) w' 22 5 (some x) 0 cap 0 0 Try.underlying22
  go_enter Try.func8, Try.ntmps8
  go_wp2_with (at_make; refine wpList_make_full _ rfl _ _ 22 rfl w.heap.size 5 i0 (.int .u8 0) 1 Try.underlying22 hi hz0 hz1 .i64 .i64 0 0 0 rfl rfl rfl rfl (by omega) (Nat.zero_le _) (Nat.le_refl _) ?_; intro w1 hown hgr)
  refine wp_loop_rounds 1 ?_
  rw [rounds_succ]
  go_wp2
  go_ret
  exact ⟨rfl, cl_first hown hgr⟩

/-- a slice of bytes that came in -/
def InRow (w : World) (a : Option Addr) (len cap : Nat) (zs : List Int) : Prop :=
  (a = none ∧ len = 0 ∧ cap = 0 ∧ zs = []) ∨
  ∃ x, a = some x ∧ len ≤ cap ∧ cap ≤ maxLen ∧ zs.length = len ∧ (∀ j, j < len → w.cell? (x.add j) = some (.int .u8 (zs.getD j 0))) ∧ ∀ c ∈ zs, 0 ≤ c ∧ c ≤ 255

/-- zzCloneBytes: the clone reads as the source does -/
theorem clone_any (a : Option Addr) (len cap : Nat) (zs : List Int) (w : World) (hl : len ≤ 1048576) (H : InRow w a len cap zs) :
    Calls Try.prog 8 #[.slice a len cap] w fun e w' => ∃ a' cap', e = .returned (.slice a' len cap') ∧ Bytes w' a' len cap' zs ∧ Below w.heap.size w w' := by
  rcases H with ⟨rfl, rfl, rfl, rfl⟩ | ⟨x, rfl, h1, h2, h3, h4, h5⟩
  · refine (clone_nil w).mono ?_
    rintro e w' ⟨rfl, rfl⟩
    exact ⟨none, 0, rfl, ⟨rfl, Nat.le_refl _, Nat.zero_le _, by simp, .inl ⟨rfl, rfl⟩⟩, Below.refl _ _⟩
  · by_cases h0 : len = 0
    · subst h0
      obtain rfl : zs = [] := List.length_eq_zero_iff.1 h3
      refine (clone_empty x cap w).mono ?_
      rintro e w' ⟨rfl, hcl⟩
      exact ⟨_, _, rfl, hcl.bytes rfl (Nat.zero_le _) (by simp), hcl.1⟩
    · obtain ⟨b, off, spot⟩ := x
      have hspot : spot = none := by simpa [Addr.add] using World.cell?_spot (h4 0 (by omega))
      subst hspot
      refine (clone_some b off len cap zs w hl (fun j hj => by rw [← Addr.add_lit]; exact h4 j hj)).mono ?_
      rintro e w' ⟨rfl, hcl⟩
      exact ⟨_, _, rfl, hcl.bytes h3 (by omega) h5, hcl.1⟩

end Go.Proofs.Qxb6604284a
