import Derived.Test.Qxb6604754aSweep
namespace Go.Proofs.Qxb6604754a
open Go.RowKit

theorem two_made {w w1 w2 : World} {n n' : Nat} (h1 : w1.ownsRow w.heap.size 3 1 (.slice (some ⟨w.heap.size, 0, none⟩) 0 n) 0 []) (g1 : w.grownBy w1 none) (h2 : w2.ownsRow w.heap.size 23 1 (.slice (some ⟨w1.heap.size, 0, none⟩) 0 n') 0 []) (g2 : w1.grownBy w2 none) :
    Two w w2 (some ⟨w.heap.size, 0, none⟩) n (some ⟨w1.heap.size, 0, none⟩) n' 0 [] := by
  refine ⟨?_, rfl, h1.kept g2 (.inr (by simp [Value.ownBlock])), h2⟩
  have a : Gr w w1 := Below.grown (Below.refl _ _) g1 (Nat.le_refl _) (by simp)
  exact Below.grown a g2 a.size (by simp)

set_option maxRecDepth 10000 in
set_option maxHeartbeats 4000000 in
theorem merge_any (aa ab ba bb : Option Addr) (na nb ca cb cc cd : Nat) (A B : List Job) (w : World) (hna : na ≤ 16384) (hnb : nb ≤ 16384) (hA : PairAt w aa ab na A) (hB : PairAt w ba bb nb B) (sA : Sorted A) (sB : Sorted B) (dA : ∀ j ∈ A, dom j.2) (dB : ∀ j ∈ B, dom j.2) :
    Calls Try.prog 16 #[.slice aa na ca, .slice ab na cb, .slice ba nb cc, .slice bb nb cd] w fun e w' => Gr w w' ∧ ∃ a1 c1 a2 c2, ∃ S : List Job, ∃ m : Nat, ∃ ms : List Job, e = .returned (.tuple #[.slice a1 m c1, .slice a2 m c2]) ∧ PairAt w' a1 a2 m S ∧ (∀ s, s ∈ ms ↔ s ∈ A ∨ s ∈ B) ∧ Stair (· ∈ ms) S := by
  obtain ⟨i3, hi3, hz3, hy3, hb3⟩ := info_parts Try.info3
  obtain ⟨i23, hi23, hz23, hy23, hb23⟩ := info_parts Try.info23
  have HA := hide hA
  have HB := hide hB
  have SA := hide sA
  have SB := hide sB
  have DA := hide dA
  have DB := hide dB
  have hlA := hA.len
  have hlB := hB.len
  clear hA hB sA sB dA dB
  go_enter Try.func16, Try.ntmps16
  go_wp2_with (first
    | (at_make; refine wpList_make_own _ rfl _ _ 30 rfl w.heap.size 3 i3 (.int .i64 0) 1 Try.underlying30 hi3 hz3 hy3 .i64 .i64 _ (na + nb) rfl rfl (by omega) (by rw [hb3]; omega) (by unfold maxLen; omega) (Nat.le_refl _) ?_; intro wa hown1 hgr1)
    | (at_make; refine wpList_make_own _ rfl _ _ 50 rfl w.heap.size 23 i23 (.float .f64 0) 1 Try.underlying50 hi23 hz23 hy23 .i64 .i64 _ (na + nb) rfl rfl (by omega) (by rw [hb23]; omega) (by unfold maxLen; omega) (by exact hgr1.size) ?_; intro wb hown2 hgr2))
  have HT0 := hide (two_made hown1 hgr1 hown2 hgr2)
  clear hown1 hgr1 hown2 hgr2
  go_loopw [10, 11, 12, 13] (fun s e iv jv wr => ∃ (i j : Nat) (a1 : Option Addr) (c1 : Nat) (a2 : Option Addr) (c2 m : Nat) (ms : List Job), i ≤ na ∧ j ≤ nb ∧ m ≤ i + j ∧ i + j ≤ m ∧ s = .slice a1 m c1 ∧ e = .slice a2 m c2 ∧ iv = .int .i64 i ∧ jv = .int .i64 j ∧ Hid (Two w wr a1 c1 a2 c2 m ms) ∧ Hid (MInv A B i j ms)) (fun _ _ iv jv _ => na - (intOf iv).toNat + (nb - (intOf jv).toNat))
  case atStart => exact ⟨0, 0, _, _, _, _, 0, [], Nat.zero_le _, Nat.zero_le _, Nat.le_refl _, Nat.le_refl _, rfl, rfl, rfl, rfl, HT0, MInv.start A B⟩
  case round =>
  clear HT0
  obtain ⟨i, j, a1, c1, a2, c2, m, ms, hi, hj, hm, hm', rfl, rfl, rfl, rfl, HT, HI⟩ := hrel
  by_cases hin : i < na
  · obtain ⟨x, hx⟩ : ∃ x, A[i]? = some x := ⟨_, List.getElem?_eq_getElem (by omega)⟩
    obtain ⟨b1, o1, b2, o2, rfl, rfl, e1, e2⟩ := HA.out.at' i x hx
    by_cases hjn : j < nb
    · obtain ⟨y, hy⟩ : ∃ y, B[j]? = some y := ⟨_, List.getElem?_eq_getElem (by omega)⟩
      obtain ⟨b3, o3, b4, o4, rfl, rfl, e3, e4⟩ := HB.out.at' j y hy
      have d1 := HT.out.below.cell e1
      have d2 := HT.out.below.cell e2
      have d3 := HT.out.below.cell e3
      have d4 := HT.out.below.cell e4
      have dx := DA.out x (List.mem_of_getElem? hx)
      have dy := DB.out y (List.mem_of_getElem? hy)
      cases hl : less (y.1, y.2) (x.1, x.2) with
      | false =>
        have hmI := HI.out.takeA SA.out SB.out hx (fun z hz => by rw [hy] at hz; cases hz; exact less_false dy dx hl)
        go_wp2_with fail
        go_quiet (first | (go_at_call 14; exact Calls.quiet_of_same (less_any _ _ _ _ _)))
        have HT1 := hide (HT.out.drewN nq)
        have HN := hide (hmI)
        obtain ⟨wq, hwq⟩ : ∃ wq, wq = wr.drewN nq := ⟨_, rfl⟩
        rw [← hwq] at HT1 ⊢
        have d1q := HT1.out.below.cell e1
        clear HT HI hwq d1 d2 d3 d4 hx hy hmI hl dx dy
        go_wp2_with (first
          | (at_builtin; refine wpList_append_own_at _ rfl _ _ 30 rfl w.heap.size 3 i3 (.int .i64 0) 1 8 Try.underlying30 hi3 hz3 hy3 hb3 rfl (by decide) _ _ _ rfl (HT1.out.r1.alloc _) ⟨wq.heap.size, 0, none⟩ 1 1 [.int .i64 x.1] rfl rfl (cell_one_new _ _ _) (by simp [Value.oneCell']) (by unfold maxLen; omega) (by omega) (by have := HT1.out.below.size; simp; omega) ?_; intro v1 w1 hown1 hgr1 hnl1 hat1; clear hnl1 hat1; obtain ⟨a3, c3, rfl, hH⟩ := HT1.out.push1 (x := x) hown1 hgr1; have HH := hide hH; have d2q := hH.below.cell e2; clear hown1 hgr1 hH d1q)
          | (at_builtin; refine wpList_append_own_at _ rfl _ _ 50 rfl w.heap.size 23 i23 (.float .f64 0) 1 8 Try.underlying50 hi23 hz23 hy23 hb23 rfl (by decide) _ _ _ rfl (HH.out.r2.alloc _) ⟨w1.heap.size, 0, none⟩ 1 1 [.float .f64 x.2] rfl rfl (cell_one_new _ _ _) (by simp [Value.oneCell']) (by unfold maxLen; omega) (by omega) (by have := HH.out.below.size; simp; omega) ?_; intro v2 w2 hown2 hgr2 hnl2 hat2; clear hnl2 hat2; obtain ⟨a4, c4, rfl, hX⟩ := HH.out.push2 hown2 hgr2; have HX := hide hX; clear hown2 hgr2 hX d2q))
        refine ⟨⟨i + 1, j, _, _, _, _, m + 1, _, by omega, by omega, by omega, by omega, rfl, rfl, by go_num, by go_num, HX, HN⟩, ?_⟩
        simp [intOf]
        omega
      | true =>
        have hmI := HI.out.takeB SA.out SB.out hy (fun z hz => by rw [hx] at hz; cases hz; exact less_true hl)
        go_wp2_with fail
        go_quiet (first | (go_at_call 14; exact Calls.quiet_of_same (less_any _ _ _ _ _)))
        have HT1 := hide (HT.out.drewN nq)
        have HN := hide (hmI)
        obtain ⟨wq, hwq⟩ : ∃ wq, wq = wr.drewN nq := ⟨_, rfl⟩
        rw [← hwq] at HT1 ⊢
        have d1q := HT1.out.below.cell e3
        clear HT HI hwq d1 d2 d3 d4 hx hy hmI hl dx dy
        go_wp2_with (first
          | (at_builtin; refine wpList_append_own_at _ rfl _ _ 30 rfl w.heap.size 3 i3 (.int .i64 0) 1 8 Try.underlying30 hi3 hz3 hy3 hb3 rfl (by decide) _ _ _ rfl (HT1.out.r1.alloc _) ⟨wq.heap.size, 0, none⟩ 1 1 [.int .i64 y.1] rfl rfl (cell_one_new _ _ _) (by simp [Value.oneCell']) (by unfold maxLen; omega) (by omega) (by have := HT1.out.below.size; simp; omega) ?_; intro v1 w1 hown1 hgr1 hnl1 hat1; clear hnl1 hat1; obtain ⟨a3, c3, rfl, hH⟩ := HT1.out.push1 (x := y) hown1 hgr1; have HH := hide hH; have d2q := hH.below.cell e4; clear hown1 hgr1 hH d1q)
          | (at_builtin; refine wpList_append_own_at _ rfl _ _ 50 rfl w.heap.size 23 i23 (.float .f64 0) 1 8 Try.underlying50 hi23 hz23 hy23 hb23 rfl (by decide) _ _ _ rfl (HH.out.r2.alloc _) ⟨w1.heap.size, 0, none⟩ 1 1 [.float .f64 y.2] rfl rfl (cell_one_new _ _ _) (by simp [Value.oneCell']) (by unfold maxLen; omega) (by omega) (by have := HH.out.below.size; simp; omega) ?_; intro v2 w2 hown2 hgr2 hnl2 hat2; clear hnl2 hat2; obtain ⟨a4, c4, rfl, hX⟩ := HH.out.push2 hown2 hgr2; have HX := hide hX; clear hown2 hgr2 hX d2q))
        refine ⟨⟨i, j + 1, _, _, _, _, m + 1, _, by omega, by omega, by omega, by omega, rfl, rfl, by go_num, by go_num, HX, HN⟩, ?_⟩
        simp [intOf]
        omega
    · obtain rfl : j = nb := by omega
      have hmI := HI.out.takeA SA.out SB.out hx (fun z hz => by have := (List.getElem?_eq_some_iff.1 hz).1; omega)
      go_wp2_with fail
      go_region
      have HT1 := hide (show Two w wr.drew a1 c1 a2 c2 m ms from HT.out.drewN 1)
      have HN := hide (hmI)
      obtain ⟨wq, hwq⟩ : ∃ wq, wq = wr.drew := ⟨_, rfl⟩
      rw [← hwq] at HT1 ⊢
      have d1q := HT1.out.below.cell e1
      clear HT HI hwq hx hmI
      go_wp2_with (first
        | (at_builtin; refine wpList_append_own_at _ rfl _ _ 30 rfl w.heap.size 3 i3 (.int .i64 0) 1 8 Try.underlying30 hi3 hz3 hy3 hb3 rfl (by decide) _ _ _ rfl (HT1.out.r1.alloc _) ⟨wq.heap.size, 0, none⟩ 1 1 [.int .i64 x.1] rfl rfl (cell_one_new _ _ _) (by simp [Value.oneCell']) (by unfold maxLen; omega) (by omega) (by have := HT1.out.below.size; simp; omega) ?_; intro v1 w1 hown1 hgr1 hnl1 hat1; clear hnl1 hat1; obtain ⟨a3, c3, rfl, hH⟩ := HT1.out.push1 (x := x) hown1 hgr1; have HH := hide hH; have d2q := hH.below.cell e2; clear hown1 hgr1 hH d1q)
        | (at_builtin; refine wpList_append_own_at _ rfl _ _ 50 rfl w.heap.size 23 i23 (.float .f64 0) 1 8 Try.underlying50 hi23 hz23 hy23 hb23 rfl (by decide) _ _ _ rfl (HH.out.r2.alloc _) ⟨w1.heap.size, 0, none⟩ 1 1 [.float .f64 x.2] rfl rfl (cell_one_new _ _ _) (by simp [Value.oneCell']) (by unfold maxLen; omega) (by omega) (by have := HH.out.below.size; simp; omega) ?_; intro v2 w2 hown2 hgr2 hnl2 hat2; clear hnl2 hat2; obtain ⟨a4, c4, rfl, hX⟩ := HH.out.push2 hown2 hgr2; have HX := hide hX; clear hown2 hgr2 hX d2q))
      refine ⟨⟨i + 1, j, _, _, _, _, m + 1, _, by omega, by omega, by omega, by omega, rfl, rfl, by go_num, by go_num, HX, HN⟩, ?_⟩
      simp [intOf]
      omega
  · have hid : decide ((i : Int) < (na : Int)) = false := decide_eq_false (by omega)
    have hid' : decide (i < na) = false := decide_eq_false (by omega)
    by_cases hjn : j < nb
    · have hjd : decide ((nb : Int) ≤ (j : Int)) = false := decide_eq_false (by omega)
      have hjd' : decide (nb ≤ j) = false := decide_eq_false (by omega)
      obtain ⟨x, hx⟩ : ∃ x, B[j]? = some x := ⟨_, List.getElem?_eq_getElem (by omega)⟩
      obtain ⟨b1, o1, b2, o2, rfl, rfl, e1, e2⟩ := HB.out.at' j x hx
      have hmI := HI.out.takeB SA.out SB.out hx (fun z hz => by have := (List.getElem?_eq_some_iff.1 hz).1; omega)
      go_wp2_with fail
      go_region
      have HT1 := hide (show Two w wr.drew a1 c1 a2 c2 m ms from HT.out.drewN 1)
      have HN := hide (hmI)
      obtain ⟨wq, hwq⟩ : ∃ wq, wq = wr.drew := ⟨_, rfl⟩
      rw [← hwq] at HT1 ⊢
      have d1q := HT1.out.below.cell e1
      clear HT HI hwq hx hmI
      go_wp2_with (first
        | (at_builtin; refine wpList_append_own_at _ rfl _ _ 30 rfl w.heap.size 3 i3 (.int .i64 0) 1 8 Try.underlying30 hi3 hz3 hy3 hb3 rfl (by decide) _ _ _ rfl (HT1.out.r1.alloc _) ⟨wq.heap.size, 0, none⟩ 1 1 [.int .i64 x.1] rfl rfl (cell_one_new _ _ _) (by simp [Value.oneCell']) (by unfold maxLen; omega) (by omega) (by have := HT1.out.below.size; simp; omega) ?_; intro v1 w1 hown1 hgr1 hnl1 hat1; clear hnl1 hat1; obtain ⟨a3, c3, rfl, hH⟩ := HT1.out.push1 (x := x) hown1 hgr1; have HH := hide hH; have d2q := hH.below.cell e2; clear hown1 hgr1 hH d1q)
        | (at_builtin; refine wpList_append_own_at _ rfl _ _ 50 rfl w.heap.size 23 i23 (.float .f64 0) 1 8 Try.underlying50 hi23 hz23 hy23 hb23 rfl (by decide) _ _ _ rfl (HH.out.r2.alloc _) ⟨w1.heap.size, 0, none⟩ 1 1 [.float .f64 x.2] rfl rfl (cell_one_new _ _ _) (by simp [Value.oneCell']) (by unfold maxLen; omega) (by omega) (by have := HH.out.below.size; simp; omega) ?_; intro v2 w2 hown2 hgr2 hnl2 hat2; clear hnl2 hat2; obtain ⟨a4, c4, rfl, hX⟩ := HH.out.push2 hown2 hgr2; have HX := hide hX; clear hown2 hgr2 hX d2q))
      refine ⟨⟨i, j + 1, _, _, _, _, m + 1, _, by omega, by omega, by omega, by omega, rfl, rfl, by go_num, by go_num, HX, HN⟩, ?_⟩
      simp [intOf]
      omega
    · obtain rfl : j = nb := by omega
      clear hid hid'
      obtain ⟨hs, hmem⟩ := HI.out.done (by omega) (by omega)
      have hdm : ∀ q ∈ ms, dom q.2 := fun q hq => by
        rcases (hmem q).1 hq with h | h
        · exact DA.out q h
        · exact DB.out q h
      go_wp2_with fail
      refine (sweep_any a1 a2 m c1 c2 ms _ (by omega) HT.out.pair hs hdm).mono ?_
      rintro e w2 ⟨hg2, a3, c3, a4, c4, S, m2, rfl, hP, hSt⟩
      have HG := hide (HT.out.below.trans hg2)
      go_wp2
      go_ret2
      exact ⟨HG.out, _, _, _, _, S, m2, ms, rfl, hP, hmem, hSt⟩

end Go.Proofs.Qxb6604754a
