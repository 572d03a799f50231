import Derived.Test.Qxb6604754aBlk
namespace Go.Proofs.Qxb6604754a
open Go.RowKit
attribute [local go_sem] run_store_float

theorem Try.info40 : (Try.prog.info? 40).map (fun i => (i.zero, i.size, i.bytes)) = some (some (.agg #[.int .i64 0, .int .i64 0, .float .f64 0]), 3, 24) := by kernel_rfl

set_option maxHeartbeats 1000000 in
theorem clone_any (a : Option Addr) (n c : Nat) (sl : List Slt) (w : World) (hn : n ≤ 65536) (h : SlotsAt w a n sl) :
    Calls Try.prog 7 #[.slice a n c] w fun e w' => Gr w w' ∧ ∃ a' c', e = .returned (.slice a' n c') ∧ SlotsAt w' a' n sl := by
  obtain ⟨i0, hi, hz0, hz1, hz2⟩ := info_parts Try.info40
  have HC := hide h
  have hlen := h.len
  clear h
  cases a with
  | none =>
    have h0 : n = 0 := by
      refine Nat.eq_zero_of_not_pos fun hp => ?_
      obtain ⟨b, off, e, -⟩ := HC.out.at' 0 _ (List.getElem?_eq_getElem (by omega))
      cases e
    subst h0
    have hnil := fun w' => Lib.run_eql_slice_nil (P := Try.prog) w' 22 40 none 0 c 0 0 Try.underlying22
    go_enter Try.func7, Try.ntmps7
    go_wp2
    go_ret
    exact ⟨Gr.refl _, none, 0, rfl, HC.out⟩
  | some ad =>
    have hnil := fun w' => Lib.run_eql_slice_nil (P := Try.prog) w' 22 40 (some ad) n c 0 0 Try.underlying22
    go_enter Try.func7, Try.ntmps7
    go_wp2_with (at_make; refine wpList_make_full _ rfl _ _ 22 rfl w.heap.size 40 i0 (.agg #[.int .i64 0, .int .i64 0, .float .f64 0]) 3 Try.underlying22 hi hz0 hz1 .i64 .i64 n n n rfl rfl rfl rfl (by rw [hz2]; omega) (by unfold maxLen; omega) (Nat.le_refl _) ?_; intro w1 hown hgr)
    have HB0 := hide (blk_own hown rfl)
    have HL0 : (madeCells (Value.agg #[.int .i64 0, .int .i64 0, .float .f64 0]).cells (n * 3)).toList.length = n * 3 := by simp [size_madeCells]
    have HG0 := hide (show Gr w w1 from Below.grown (Below.refl _ _) hgr (Nat.le_refl _) (by simp))
    clear hown hgr
    go_loopw [4] (fun i wr => ∃ (k : Nat) (cs : List Value), k ≤ n ∧ i = .int .i64 k ∧ Hid (Gr w wr) ∧ Hid (Blk wr w.heap.size 40 cs) ∧ Hid (Fill3 cs n k sl)) (fun i _ => n - (intOf i).toNat)
    case atStart => exact ⟨0, _, Nat.zero_le _, rfl, HG0, HB0, ⟨HL0, fun j x _ h => by omega⟩⟩
    case round =>
    clear HB0 HL0 HG0
    obtain ⟨k, cs, hk, rfl, HG, HB, HF⟩ := hrel
    by_cases hlt : k < n
    · obtain ⟨x, hx⟩ : ∃ x, sl[k]? = some x := ⟨_, List.getElem?_eq_getElem (by omega)⟩
      obtain ⟨b, off, e, d1, d2, d3⟩ := (HC.out.gr HG.out).at' k x hx
      obtain rfl : ad = ⟨b, off, none⟩ := by simpa using e
      clear e
      obtain ⟨⟨u1, t1⟩, ⟨u2, t2⟩, u3, t3⟩ := HF.out.cells hlt
      have s1 := (HB.out.cell (k * 3)).trans t1
      have s2 := (HB.out.cell (k * 3 + 1)).trans t2
      have s3 := (HB.out.cell (k * 3 + 2)).trans t3
      have f1 := HB.out.frozen (k * 3)
      have f2 := HB.out.frozen (k * 3 + 1)
      have f3 := HB.out.frozen (k * 3 + 2)
      have HF' := hide (HF.out.step hlt hx)
      have HB' := hide (((HB.out.set (k * 3) (.int .i64 x.1)).set (k * 3 + 1) (.int .i64 x.2.1)).set (k * 3 + 2) (.float .f64 x.2.2))
      have HG' := hide (show Gr w (((wr.setCell ⟨w.heap.size, k * 3, none⟩ (.int .i64 x.1)).setCell ⟨w.heap.size, k * 3 + 1, none⟩ (.int .i64 x.2.1)).setCell ⟨w.heap.size, k * 3 + 2, none⟩ (.float .f64 x.2.2)) from ((HG.out.setCell (Nat.le_refl _) _).setCell (Nat.le_refl _) _).setCell (Nat.le_refl _) _)
      clear hx t1 t2 t3 HF HB HG
      go_wp2
      refine ⟨⟨k + 1, _, by omega, by go_num, HG', HB', HF'⟩, ?_⟩
      simp [intOf]
      omega
    · obtain rfl : k = n := by omega
      go_wp2
      go_ret
      exact ⟨HG.out, _, _, rfl, HF.out.slots hlen HB.out⟩

end Go.Proofs.Qxb6604754a
