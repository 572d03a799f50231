import Derived.Test.Qxb6604493aBase
import Derived.BigRegion
namespace Go.Proofs.Qxb6604493a
open Go.RowKit

theorem Try.info47 : (Try.prog.info? 47).map (fun i => (i.zero, i.size, i.bytes)) = some (some (.agg #[.string ⟨#[]⟩, .string ⟨#[]⟩]), 2, 32) := by kernel_rfl

theorem made_two (n j : Nat) (x y : Value) (h : j < n * 2) : (madeCells #[x, y] (n * 2)).toList[j]? = some (if j % 2 = 0 then x else y) := by
  have hj : j < (madeCells #[x, y] (n * 2)).toList.length := by simp [size_madeCells, h]
  rw [List.getElem?_eq_getElem hj]
  congr 1
  have h2 : j % 2 = 0 ∨ j % 2 = 1 := by omega
  rcases h2 with e | e <;> simp [madeCells, e]

/-- the new row of options, in the block behind w's: its first k are copied -/
def Row (w wr : World) (len k : Nat) (os : List (ByteArray × ByteArray)) : Prop :=
  Below w.heap.size w wr ∧ w.heap.size < wr.heap.size ∧ (∀ j, j < len → (∃ x, wr.cell? ⟨w.heap.size, j * 2, none⟩ = some (.string x)) ∧ (∃ y, wr.cell? ⟨w.heap.size, j * 2 + 1, none⟩ = some (.string y)) ∧ wr.frozen? ⟨w.heap.size, j * 2, none⟩ = false ∧ wr.frozen? ⟨w.heap.size, j * 2 + 1, none⟩ = false) ∧
  ∀ j, j < k → ∃ p1 p2, os[j]? = some (p1, p2) ∧ wr.cell? ⟨w.heap.size, j * 2, none⟩ = some (.string p1) ∧ wr.cell? ⟨w.heap.size, j * 2 + 1, none⟩ = some (.string p2)

theorem row_first {w w1 : World} {len : Nat} {os : List (ByteArray × ByteArray)} (hown : w1.ownsRow w.heap.size 47 2 (.slice (some ⟨w.heap.size, 0, none⟩) len len) len (madeCells (Value.agg #[.string ⟨#[]⟩, .string ⟨#[]⟩]).cells (len * 2)).toList) (hg : w.grownBy w1 none) : Row w w1 len 0 os := by
  refine ⟨(Below.refl _ _).grown hg (Nat.le_refl _) (by simp), (hown.lt _ rfl).2, fun j hj => ⟨⟨⟨#[]⟩, ?_⟩, ⟨⟨#[]⟩, ?_⟩, hown.frozenAt _, hown.frozenAt _⟩, fun j hj => by omega⟩
  · rw [hown.cellAt _ (by omega), show (Value.agg #[.string ⟨#[]⟩, .string ⟨#[]⟩]).cells = #[.string ⟨#[]⟩, .string ⟨#[]⟩] from rfl, made_two _ _ _ _ (by omega)]
    simp
  · rw [hown.cellAt _ (by omega), show (Value.agg #[.string ⟨#[]⟩, .string ⟨#[]⟩]).cells = #[.string ⟨#[]⟩, .string ⟨#[]⟩] from rfl, made_two _ _ _ _ (by omega)]
    simp

theorem Row.step {w wr : World} {len k : Nat} {os : List (ByteArray × ByteArray)} (h : Row w wr len k os) (hk : k < len) (p1 p2 : ByteArray) (hp : os[k]? = some (p1, p2)) :
    Row w ((wr.setCell ⟨w.heap.size, k * 2, none⟩ (.string p1)).setCell ⟨w.heap.size, k * 2 + 1, none⟩ (.string p2)).drew len (k + 1) os := by
  obtain ⟨h1, h2, h3, h4⟩ := h
  obtain ⟨⟨x, hx⟩, ⟨y, hy⟩, hfx, hfy⟩ := h3 k hk
  have e1 : ∀ o, o ≠ k * 2 → o ≠ k * 2 + 1 → ((wr.setCell ⟨w.heap.size, k * 2, none⟩ (.string p1)).setCell ⟨w.heap.size, k * 2 + 1, none⟩ (.string p2)).drew.cell? ⟨w.heap.size, o, none⟩ = wr.cell? ⟨w.heap.size, o, none⟩ := by
    intro o n1 n2
    rw [World.cell?_drew, World.cell?_setCell_other _ _ _ _ (by simp), World.cell?_setCell_other _ _ _ _ (by simp)]
  have e2 : ((wr.setCell ⟨w.heap.size, k * 2, none⟩ (.string p1)).setCell ⟨w.heap.size, k * 2 + 1, none⟩ (.string p2)).drew.cell? ⟨w.heap.size, k * 2, none⟩ = some (.string p1) := by
    rw [World.cell?_drew, World.cell?_setCell_other _ _ _ _ (by simp)]
    exact World.cell?_setCell_same _ _ _ hx
  have e3 : ((wr.setCell ⟨w.heap.size, k * 2, none⟩ (.string p1)).setCell ⟨w.heap.size, k * 2 + 1, none⟩ (.string p2)).drew.cell? ⟨w.heap.size, k * 2 + 1, none⟩ = some (.string p2) := by
    rw [World.cell?_drew]
    refine World.cell?_setCell_same _ _ _ (u := .string y) ?_
    rw [World.cell?_setCell_other _ _ _ _ (by simp)]
    exact hy
  have e4 : ∀ o, ((wr.setCell ⟨w.heap.size, k * 2, none⟩ (.string p1)).setCell ⟨w.heap.size, k * 2 + 1, none⟩ (.string p2)).drew.frozen? ⟨w.heap.size, o, none⟩ = wr.frozen? ⟨w.heap.size, o, none⟩ := by
    intro o
    show ((wr.setCell ⟨w.heap.size, k * 2, none⟩ (.string p1)).setCell ⟨w.heap.size, k * 2 + 1, none⟩ (.string p2)).frozen? ⟨w.heap.size, o, none⟩ = _
    rw [World.frozen?_setCell, World.frozen?_setCell]
  refine ⟨((h1.setCell (Nat.le_refl _) _).setCell (Nat.le_refl _) _).drew, by simpa using h2, fun j hj => ?_, fun j hj => ?_⟩
  · by_cases e : j = k
    · subst e
      exact ⟨⟨_, e2⟩, ⟨_, e3⟩, (e4 _).trans hfx, (e4 _).trans hfy⟩
    · obtain ⟨⟨x', hx'⟩, ⟨y', hy'⟩, hf1, hf2⟩ := h3 j hj
      exact ⟨⟨x', by rw [e1 _ (by omega) (by omega)]; exact hx'⟩, ⟨y', by rw [e1 _ (by omega) (by omega)]; exact hy'⟩, (e4 _).trans hf1, (e4 _).trans hf2⟩
  · by_cases e : j = k
    · subst e
      exact ⟨p1, p2, hp, e2, e3⟩
    · obtain ⟨q1, q2, g1, g2, g3⟩ := h4 j (by omega)
      exact ⟨q1, q2, g1, by rw [e1 _ (by omega) (by omega)]; exact g2, by rw [e1 _ (by omega) (by omega)]; exact g3⟩
theorem Row.opts {w wr : World} {len : Nat} {os : List (ByteArray × ByteArray)} (h : Row w wr len len os) (hl : os.length = len) : Opts wr (some ⟨w.heap.size, 0, none⟩) len os := by
  refine ⟨hl, fun j hj => ?_⟩
  obtain ⟨p1, p2, g1, g2, g3⟩ := h.2.2.2 j hj
  exact ⟨w.heap.size, 0, p1, p2, rfl, g1, by rw [Nat.zero_add]; exact g2, by rw [Nat.zero_add]; exact g3⟩

set_option maxHeartbeats 1000000 in
theorem to_any (a : Option Addr) (len cap : Nat) (os : List (ByteArray × ByteArray)) (w : World) (hl : len ≤ 65536) (h : Opts w a len os) :
    Calls Try.prog 7 #[.slice a len cap] w fun e w' => e = .returned (.slice (some ⟨w.heap.size, 0, none⟩) len len) ∧ Row w w' len len os := by
  obtain ⟨i0, hi, hz0, hz1, hz2⟩ := info_parts Try.info47
  have HC := hide h
  clear h
  go_enter Try.func7, Try.ntmps7
  go_wp2_with (at_make; refine wpList_make_full _ rfl _ _ 26 rfl w.heap.size 47 i0 (.agg #[.string ⟨#[]⟩, .string ⟨#[]⟩]) 2 Try.underlying26 hi hz0 hz1 .i64 .i64 len len len rfl rfl rfl rfl (by rw [hz2]; omega) (by unfold maxLen; omega) (Nat.le_refl _) ?_; intro w1 hown hgr)
  have HR := hide (row_first (os := os) hown hgr)
  clear hown hgr
  go_loopw [4] (fun i wr => ∃ k : Nat, k ≤ len ∧ i = .int .i64 k ∧ Row w wr len k os) (fun i _ => len - (intOf i).toNat)
  case atStart => exact ⟨0, Nat.zero_le _, rfl, HR.out⟩
  case round =>
  obtain ⟨k, hk, rfl, hrow⟩ := hrel
  clear HR
  by_cases hlt : k < len
  · obtain ⟨b, off, p1, p2, rfl, hp, hn0, hv0⟩ := HC.out.2 k hlt
    have hb : b < w.heap.size := World.block_lt_of_cell? w _ hn0
    have hn : wr.cell? ⟨b, off + k * 2, none⟩ = some (.string p1) := (hrow.1.cell (by exact hb)).trans hn0
    have hv : wr.cell? ⟨b, off + k * 2 + 1, none⟩ = some (.string p2) := (hrow.1.cell (by exact hb)).trans hv0
    obtain ⟨⟨x, hx⟩, ⟨y, hy⟩, hfx, hfy⟩ := hrow.2.2.1 k hlt
    have HW := hide (hrow.step hlt p1 p2 hp)
    clear hrow hp hn0 hv0
    go_wp2
    go_region
    all_goals
      go_wp2
      go_roundw
      case rel => exact ⟨k + 1, by omega, by go_num, HW.out⟩
      case measure => simp [intOf]; omega
  · obtain rfl : k = len := by omega
    go_wp2
    go_ret
    exact ⟨rfl, hrow⟩

end Go.Proofs.Qxb6604493a
