import Derived.Test.Qxb6604754aPair
namespace Go.Proofs.Qxb6604754a
open Go.RowKit

set_option maxRecDepth 10000 in
set_option maxHeartbeats 4000000 in
theorem sweep_any (a b : Option Addr) (n ca cb : Nat) (L : List Job) (w : World) (hn : n ≤ 65536) (h : PairAt w a b n L) (hs : Sorted L) (hd : ∀ j ∈ L, dom j.2) :
    Calls Try.prog 15 #[.slice a n ca, .slice b n cb] w fun e w' => Gr w w' ∧ ∃ a1 c1 a2 c2 S m, e = .returned (.tuple #[.slice a1 m c1, .slice a2 m c2]) ∧ PairAt w' a1 a2 m S ∧ Stair (· ∈ L) S := by
  obtain ⟨i3, hi3, hz3, hy3, hb3⟩ := info_parts Try.info3
  obtain ⟨i23, hi23, hz23, hy23, hb23⟩ := info_parts Try.info23
  have HP := hide h
  have HS := hide hs
  have HD := hide hd
  have hlen := h.len
  clear h hs hd
  go_enter Try.func15, Try.ntmps15
  go_wp2
  go_loopw [6, 7, 8] (fun s e i wr => ∃ (k : Nat) (a1 : Option Addr) (c1 : Nat) (a2 : Option Addr) (c2 m : Nat) (out : List Job), k ≤ n ∧ m ≤ k ∧ s = .slice a1 m c1 ∧ e = .slice a2 m c2 ∧ i = .int .i64 k ∧ Hid (Two w wr a1 c1 a2 c2 m out) ∧ Hid (SInv L k out)) (fun _ _ i _ => n - (intOf i).toNat)
  case atStart => exact ⟨0, none, 0, none, 0, 0, [], Nat.zero_le _, Nat.le_refl _, rfl, rfl, rfl, Two.start w, SInv.start L⟩
  case round =>
  obtain ⟨k, a1, c1, a2, c2, m, out, hk, hmk, rfl, rfl, rfl, HT, HI⟩ := hrel
  by_cases hlt : k < n
  · obtain ⟨x, hx⟩ : ∃ x, L[k]? = some x := ⟨_, List.getElem?_eq_getElem (by omega)⟩
    obtain ⟨b1, o1, b2, o2, rfl, rfl, e1, e2⟩ := HP.out.at' k x hx
    have d1 := HT.out.below.cell e1
    have d2 := HT.out.below.cell e2
    have HR := hide (HI.out.round HS.out HD.out hx)
    have hol := HT.out.len
    by_cases hm0 : m = 0
    · subst hm0
      go_wp2_with fail
      go_quiet (fail)
      have HT1 := hide (HT.out.drewN nq)
      have HN := hide (HR.out.1 hol)
      obtain ⟨wq, hwq⟩ : ∃ wq, wq = wr.drewN nq := ⟨_, rfl⟩
      rw [← hwq] at HT1 ⊢
      have d1q := HT1.out.below.cell e1
      clear HT HI HR hwq d1 d2
      go_wp2_with (first
        | (at_builtin; refine wpList_append_own_at _ rfl _ _ 30 rfl w.heap.size 3 i3 (.int .i64 0) 1 8 Try.underlying30 hi3 hz3 hy3 hb3 rfl (by decide) _ _ _ rfl (HT1.out.r1.alloc _) ⟨wq.heap.size, 0, none⟩ 1 1 [.int .i64 x.1] rfl rfl (cell_one_new _ _ _) (by simp [Value.oneCell']) (by unfold maxLen; omega) (by omega) (by have := HT1.out.below.size; simp; omega) ?_; intro v1 w1 hown1 hgr1 hnl1 hat1; clear hnl1 hat1; obtain ⟨a3, c3, rfl, hH⟩ := HT1.out.push1 (x := x) hown1 hgr1; have HH := hide hH; have d2q := hH.below.cell e2; clear hown1 hgr1 hH d1q)
        | (at_builtin; refine wpList_append_own_at _ rfl _ _ 50 rfl w.heap.size 23 i23 (.float .f64 0) 1 8 Try.underlying50 hi23 hz23 hy23 hb23 rfl (by decide) _ _ _ rfl (HH.out.r2.alloc _) ⟨w1.heap.size, 0, none⟩ 1 1 [.float .f64 x.2] rfl rfl (cell_one_new _ _ _) (by simp [Value.oneCell']) (by unfold maxLen; omega) (by omega) (by have := HH.out.below.size; simp; omega) ?_; intro v2 w2 hown2 hgr2 hnl2 hat2; clear hnl2 hat2; obtain ⟨a4, c4, rfl, hX⟩ := HH.out.push2 hown2 hgr2; have HX := hide hX; clear hown2 hgr2 hX d2q))
      refine ⟨⟨k + 1, _, _, _, _, 1, _, by omega, by omega, rfl, rfl, by go_num, HX, HN⟩, ?_⟩
      simp [intOf]
      omega
    · obtain ⟨m, rfl⟩ : ∃ m', m = m' + 1 := ⟨m - 1, by omega⟩
      have hwm : IntKind.i64.wrap (m : Int) = m := by rw [IntKind.wrap_i64]; omega
      have hmb : ((m : Int) + 1 == 0) = false := beq_eq_false_iff_ne.2 (by omega)
      obtain ⟨l, hl⟩ : ∃ l, out[out.length - 1]? = some l := ⟨_, List.getElem?_eq_getElem (by omega)⟩
      have hl' := hl
      rw [hol, Nat.add_sub_cancel] at hl'
      obtain ⟨_, _, b4, o4, _, rfl, -, d4⟩ := HT.out.pair.at' m l hl'
      cases hf : flt D x.2 l.2 with
      | true =>
        have hf' : (FloatKind.f64.format.order x.2 l.2 == some Ordering.lt) = true := hf
        go_wp2_with fail
        go_quiet (fail)
        have HT1 := hide (HT.out.drewN nq)
        have HN := hide (HR.out.2.1 l hl hf)
        obtain ⟨wq, hwq⟩ : ∃ wq, wq = wr.drewN nq := ⟨_, rfl⟩
        rw [← hwq] at HT1 ⊢
        have d1q := HT1.out.below.cell e1
        clear HT HI HR hwq d1 d2
        go_wp2_with (first
          | (at_builtin; refine wpList_append_own_at _ rfl _ _ 30 rfl w.heap.size 3 i3 (.int .i64 0) 1 8 Try.underlying30 hi3 hz3 hy3 hb3 rfl (by decide) _ _ _ rfl (HT1.out.r1.alloc _) ⟨wq.heap.size, 0, none⟩ 1 1 [.int .i64 x.1] rfl rfl (cell_one_new _ _ _) (by simp [Value.oneCell']) (by unfold maxLen; omega) (by omega) (by have := HT1.out.below.size; simp; omega) ?_; intro v1 w1 hown1 hgr1 hnl1 hat1; clear hnl1 hat1; obtain ⟨a3, c3, rfl, hH⟩ := HT1.out.push1 (x := x) hown1 hgr1; have HH := hide hH; have d2q := hH.below.cell e2; clear hown1 hgr1 hH d1q)
          | (at_builtin; refine wpList_append_own_at _ rfl _ _ 50 rfl w.heap.size 23 i23 (.float .f64 0) 1 8 Try.underlying50 hi23 hz23 hy23 hb23 rfl (by decide) _ _ _ rfl (HH.out.r2.alloc _) ⟨w1.heap.size, 0, none⟩ 1 1 [.float .f64 x.2] rfl rfl (cell_one_new _ _ _) (by simp [Value.oneCell']) (by unfold maxLen; omega) (by omega) (by have := HH.out.below.size; simp; omega) ?_; intro v2 w2 hown2 hgr2 hnl2 hat2; clear hnl2 hat2; obtain ⟨a4, c4, rfl, hX⟩ := HH.out.push2 hown2 hgr2; have HX := hide hX; clear hown2 hgr2 hX d2q))
        refine ⟨⟨k + 1, _, _, _, _, (m + 1 + 1), _, by omega, by omega, rfl, rfl, by go_num, HX, HN⟩, ?_⟩
        simp [intOf]
        omega
      | false =>
        have hf' : (FloatKind.f64.format.order x.2 l.2 == some Ordering.lt) = false := hf
        have HN := hide (HR.out.2.2 l hl hf)
        go_wp2_with fail
        go_quiet (fail)
        go_wp2
        refine ⟨⟨k + 1, _, _, _, _, (m + 1), _, by omega, by omega, rfl, rfl, by go_num, (HT.out.drewN nq), HN⟩, ?_⟩
        simp [intOf]
        omega
  · obtain rfl : k = n := by omega
    go_wp2
    go_ret2
    exact ⟨HT.out.below, _, _, _, _, out, m, rfl, HT.out.pair, HI.out.done (by omega)⟩

end Go.Proofs.Qxb6604754a
