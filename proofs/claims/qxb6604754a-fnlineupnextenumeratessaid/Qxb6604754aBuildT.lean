import Derived.Test.Qxb6604754aSted
namespace Go.Proofs.Qxb6604754a
open Go.RowKit
attribute [local go_sem] run_store_float

theorem node_stair {sl : List Slt} {d k : Nat} {S : List Job} (h : Node sl d k S) (h1 : 1 ≤ k) (h2 : k < 2 * 2 ^ d) : ∃ lo hi, Stair (Jn sl lo hi) S := by
  have h0 : k ≠ 0 := by omega
  have a := Nat.log2_self_le h0
  have b := @Nat.lt_log2_self k
  refine ⟨_, _, h k.log2 ?_ ⟨a, b⟩⟩
  refine Nat.le_of_not_lt fun hc => ?_
  have := Nat.pow_le_pow_right (show 0 < 2 by omega) (show d + 1 ≤ k.log2 by omega)
  rw [Nat.pow_succ] at this
  omega

set_option maxRecDepth 20000 in
set_option maxHeartbeats 8000000 in
theorem build_any (a : Option Addr) (n c : Nat) (sl : List Slt) (w : World) (hn : n ≤ 4096) (h : SlotsAt w a n sl) (hd : Dm sl) :
    Calls Try.prog 8 #[.slice a n c] w fun e w' => Gr w w' ∧ ∃ v d first T, e = .returned v ∧ QVal w' v sl first T ∧ QOk sl d first T := by
  obtain ⟨i46, hi46, hz46, hy46, hb46⟩ := info_parts Try.info46
  obtain ⟨i30, hi30, hz30, hy30, hb30⟩ := info_parts Try.info30
  obtain ⟨i50, hi50, hz50, hy50, hb50⟩ := info_parts Try.info50
  obtain ⟨i32, hi32, hz32, hy32, hb32⟩ := info_parts Try.info32
  obtain ⟨i44, hi44, hz44, hy44, hb44⟩ := info_parts Try.info44
  obtain ⟨i3, hi3, hz3, hy3, hb3⟩ := info_parts Try.info3
  obtain ⟨i23, hi23, hz23, hy23, hb23⟩ := info_parts Try.info23
  have HC := hide h
  have HD := hide hd
  have hlen := h.len
  obtain ⟨R, hR⟩ : ∃ R, w.heap.size = R := ⟨_, rfl⟩
  clear h hd
  go_enter Try.func8, Try.ntmps8
  go_wp2_with (at_make; refine wpList_make_full _ rfl _ _ 29 rfl R 46 i46 (.agg #[.int .i64 0, .int .i64 0, .float .f64 0]) 3 Try.underlying29 hi46 hz46 hy46 .i64 .i64 n n n rfl rfl rfl rfl (by rw [hb46]; omega) (by unfold maxLen; omega) (by simp; omega) ?_; intro w1 hown hgr; rw [World.size_alloc, hR] at hown)
  have HG0 := hide (show Gr w w1 from Below.grown (Gr.alloc w _) hgr (by simp) (by simp))
  have HR0 := hide (show Blk w1 R 35 zq from (show Blk _ R 35 zq from (by rw [← hR]; exact heap_alloc_new w _)).kept (hgr.block R (by simp; omega) (by simp)))
  have HS0 := hide (blk_own hown rfl)
  have HL0 : (madeCells (Value.agg #[.int .i64 0, .int .i64 0, .float .f64 0]).cells (n * 3)).toList.length = n * 3 := by simp [size_madeCells]
  clear hown hgr
  go_loopw [5, 6, 7] (fun cv fv i wr => ∃ (k f : Nat) (cnt : Int) (cs : List Value), k ≤ n ∧ 0 ≤ cnt ∧ cnt ≤ k ∧ cv = .int .i64 cnt ∧ fv = .int .i64 f ∧ i = .int .i64 k ∧ Hid (Gr w wr) ∧ Hid (Blk wr R 35 zq) ∧ Hid (Blk wr (R + 1) 46 cs) ∧ Hid (Fill3 cs n k sl) ∧ Hid (Fst sl n k f)) (fun _ _ i _ => n - (intOf i).toNat)
  case atStart => exact ⟨0, n, 0, _, Nat.zero_le _, Int.le_refl _, Int.le_refl _, rfl, rfl, rfl, HG0, HR0, HS0, ⟨HL0, fun j x _ h => by omega⟩, Fst.start sl n⟩
  case round =>
  clear HG0 HR0 HS0 HL0
  obtain ⟨k, f, cnt, cs, hk, hc0, hc1, rfl, rfl, rfl, HG, HR, HB, HF, HI⟩ := hrel
  by_cases hlt : k < n
  · as_aux_lemma =>
    obtain ⟨x, hx⟩ : ∃ x, sl[k]? = some x := ⟨_, List.getElem?_eq_getElem (by omega)⟩
    obtain ⟨b, off, rfl, e1, e2, e3⟩ := HC.out.at' k x hx
    have hbl : b < R := by rw [← hR]; exact World.block_lt_of_cell? w _ e1
    have hbn : ¬ R + 1 = b := by omega
    have d1 := HG.out.cell e1
    have d2 := HG.out.cell e2
    have d3 := HG.out.cell e3
    obtain ⟨⟨u1, t1⟩, ⟨u2, t2⟩, u3, t3⟩ := HF.out.cells hlt
    have HF' := hide (HF.out.step hlt hx)
    clear HF
    go_wp2_with fail
    go_region_held (fun w' => w'.cell? ⟨b, off + k * 3, none⟩ = some (.int .i64 x.1) ∧ w'.cell? ⟨b, off + k * 3 + 1, none⟩ = some (.int .i64 x.2.1) ∧ w'.cell? ⟨b, off + k * 3 + 2, none⟩ = some (.float .f64 x.2.2)) (go_keep)
      (first | (go_at_call 13; refine (mkSlot_any x _).mono ?_; rintro e4 w2 ⟨rfl, hg2⟩; have k1 := hg2.cell (show wr.drew.cell? _ = some _ from d1); have k2 := hg2.cell (show wr.drew.cell? _ = some _ from d2); have k3 := hg2.cell (show wr.drew.cell? _ = some _ from d3); have HB2 := hide ((HB.out.drew).gr hg2); have s1 := (HB2.out.cell (k * 3)).trans t1; have s2 := (HB2.out.cell (k * 3 + 1)).trans t2; have s3 := (HB2.out.cell (k * 3 + 2)).trans t3; have f1 := HB2.out.frozen (k * 3); have f2 := HB2.out.frozen (k * 3 + 1); have f3 := HB2.out.frozen (k * 3 + 2)))
    have HB' := hide (((HB2.out.set (k * 3) (.int .i64 x.1)).set (k * 3 + 1) (.int .i64 x.2.1)).set (k * 3 + 2) (.float .f64 x.2.2))
    have HR' := hide (show Blk (((w2.setCell ⟨R + 1, k * 3, none⟩ (.int .i64 x.1)).setCell ⟨R + 1, k * 3 + 1, none⟩ (.int .i64 x.2.1)).setCell ⟨R + 1, k * 3 + 2, none⟩ (.float .f64 x.2.2)) R 35 zq from ((((HR.out.drew).gr hg2).other (by simp) _).other (by simp) _).other (by simp) _)
    have HG' := hide (show Gr w (((w2.setCell ⟨R + 1, k * 3, none⟩ (.int .i64 x.1)).setCell ⟨R + 1, k * 3 + 1, none⟩ (.int .i64 x.2.1)).setCell ⟨R + 1, k * 3 + 2, none⟩ (.float .f64 x.2.2)) from Below.setCell (Below.setCell (Below.setCell (HG.out.drew.trans hg2) (by simp; omega) _) (by simp; omega) _) (by simp; omega) _)
    obtain ⟨wq, hwq⟩ : ∃ wq, (((w2.setCell ⟨R + 1, k * 3, none⟩ (.int .i64 x.1)).setCell ⟨R + 1, k * 3 + 1, none⟩ (.int .i64 x.2.1)).setCell ⟨R + 1, k * 3 + 2, none⟩ (.float .f64 x.2.2)) = wq := ⟨_, rfl⟩
    rw [hwq] at HB' HR' HG' ⊢
    have q1 := HG'.out.cell e1
    clear hwq HB HR HG HB2 hg2 k1 k2 k3 s1 s2 s3 f1 f2 f3 d1 d2 d3 t1 t2 t3
    by_cases hj : 0 ≤ x.1
    · by_cases hfn : f = n
      · have HI' := hide (HI.out.first hlt hfn)
        have hfb : ((f : Int) == n) = true := beq_iff_eq.2 (by omega)
        clear HI hfn hx
        go_wp2
        refine ⟨⟨k + 1, k, cnt + 1, _, by omega, by omega, by omega, by go_num, rfl, by go_num, HG', HR', HB', HF', HI'⟩, ?_⟩
        simp [intOf]
        omega
      · have HI' := hide (HI.out.later hfn)
        have hfb : ((f : Int) == n) = false := beq_eq_false_iff_ne.2 (by omega)
        clear HI hfn hx
        go_wp2
        refine ⟨⟨k + 1, f, cnt + 1, _, by omega, by omega, by omega, by go_num, rfl, by go_num, HG', HR', HB', HF', HI'⟩, ?_⟩
        simp [intOf]
        omega
    · have HI' := hide (HI.out.neg hx hj)
      clear HI hx
      go_wp2
      refine ⟨⟨k + 1, f, cnt, _, by omega, by omega, by omega, rfl, rfl, by go_num, HG', HR', HB', HF', HI'⟩, ?_⟩
      simp [intOf]
      omega
  · obtain rfl : n = k := by omega
    have HSl := hide (HF.out.slots hlen HB.out)
    have HFs := hide HI.out
    clear HF HB HI hlt
    obtain ⟨wx, rfl⟩ : ∃ wx : World, wx = wr := ⟨_, rfl⟩
    go_wp2_with fail
    go_loopw [8] (fun v wr => ∃ B d : Nat, v = .int .i64 B ∧ 0 < B ∧ B ≤ 256 ∧ d ≤ 8 ∧ wr = wx ∧ Hid (2 ^ d = B)) (fun v _ => 256 - (intOf v).toNat)
    case atStart => exact ⟨1, 0, rfl, by omega, by omega, by omega, rfl, rfl⟩
    case round =>
    obtain ⟨B, d, rfl, hB0, hB1, hd8, rfl, HBd⟩ := hrel
    by_cases hlt : B * 16 < n
    · have h2 : 2 ^ (d + 1) = B * 2 := by rw [Nat.pow_succ, HBd.out]
      have h3 : d + 1 ≤ 8 := by
        refine Nat.le_of_not_lt fun hc => ?_
        have : d = 8 := by omega
        have h4 := HBd.out
        rw [this] at h4
        omega
      have H2 := hide h2
      have hB2 : B * 2 ≤ 256 := by rw [← h2]; exact Nat.pow_le_pow_right (by omega) h3
      clear h2
      go_wp2
      refine ⟨⟨B * 2, d + 1, by go_num, by omega, hB2, h3, trivial, H2⟩, ?_⟩
      simp [intOf]
      omega
    · have HX0 := hide (show Ph0 w wr R n sl from ⟨HG.out, hR, HR.out, HSl.out⟩)
      obtain ⟨M, hM⟩ : ∃ M : Nat, 2 * (B : Int) = M := ⟨2 * B, by omega⟩
      obtain ⟨bZ, hbZ⟩ : ∃ b, wr.heap.size = b := ⟨_, rfl⟩
      clear HG HR
      go_wp2_with (first
        | (at_make; refine wpList_make_full _ rfl _ _ 48 rfl R 30 i30 (.slice none 0 0) 1 Try.underlying48 hi30 hz30 hy30 .i64 .i64 _ _ M rfl rfl rfl rfl (by rw [hb30]; omega) (by unfold maxLen; omega) (by exact HX0.out.size) ?_; intro w1 hown1 hgr1; obtain ⟨bE, hbE⟩ : ∃ b, w1.heap.size = b := ⟨_, rfl⟩)
        | (at_make; refine wpList_make_full _ rfl _ _ 49 rfl R 50 i50 (.slice none 0 0) 1 Try.underlying49 hi50 hz50 hy50 .i64 .i64 _ _ M rfl rfl rfl rfl (by rw [hb50]; omega) (by unfold maxLen; omega) (by exact Nat.le_trans HX0.out.size hgr1.size) ?_; intro w2 hown2 hgr2))
      obtain ⟨csZ0, csE0, hPh0⟩ := ph_start HX0.out (d := d) (show M = 2 * 2 ^ d by rw [HBd.out]; omega) hown1 hgr1 hown2 hgr2 B
      rw [hbZ, hbE] at hPh0
      have HP0 := hide hPh0
      clear hPh0 hown1 hgr1 hown2 hgr2 HX0 HSl hbZ hbE
      go_loopw [11] (fun v wr => ∃ (b : Nat) (csZ csE : List Value), b ≤ B ∧ v = .int .i64 b ∧ Hid (Ph w wr R n sl bZ bE csZ csE d B (B + b))) (fun v _ => B - (intOf v).toNat)
      case atStart => exact ⟨0, csZ0, csE0, Nat.zero_le _, rfl, HP0⟩
      case round =>
      clear HP0
      obtain ⟨b, csZ, csE, hbB, rfl, HP⟩ := hrel
      obtain ⟨w0, rfl⟩ : ∃ w0 : World, w0 = wr := ⟨_, rfl⟩
      by_cases hb : b < B
      · obtain ⟨lo, hlo⟩ : ∃ lo : Nat, (b : Int) * 16 = lo := ⟨b * 16, by omega⟩
        go_wp2_with fail
        go_loopw [12, 13, 14] (fun sv ev pv wr => ∃ (p : Nat) (a1 : Option Addr) (c1 : Nat) (a2 : Option Addr) (c2 m : Nat) (L : List Job), lo ≤ p ∧ p ≤ lo + 16 ∧ m ≤ p - lo ∧ sv = .slice a1 m c1 ∧ ev = .slice a2 m c2 ∧ pv = .int .i64 p ∧ Hid (Two w0 wr a1 c1 a2 c2 m L) ∧ Hid (Bk sl lo p L)) (fun _ _ pv _ => lo + 16 - (intOf pv).toNat)
        case atStart => exact ⟨lo, none, 0, none, 0, 0, [], Nat.le_refl _, by omega, by omega, rfl, rfl, rfl, Two.start w0, Bk.start sl lo⟩
        case round =>
        obtain ⟨p, a1, c1, a2, c2, m, L, hp1, hp2, hm, rfl, rfl, rfl, HT, HK⟩ := hrel
        by_cases hpc : p < lo + 16 ∧ p < n
        · as_aux_lemma =>
          obtain ⟨hpa, hpb⟩ := hpc
          obtain ⟨x, hx⟩ : ∃ x, sl[p]? = some x := ⟨_, List.getElem?_eq_getElem (by omega)⟩
          obtain ⟨b1, o1, rfl, e1, e2, e3⟩ := HC.out.at' p x hx
          have d1 := (HP.out.p0.gr.trans HT.out.below).cell e1
          by_cases hj : x.1 < 0
          · have HK' := hide (HK.out.skip hp1 hx hj)
            clear HK hx
            go_wp2
            refine ⟨⟨p + 1, _, _, _, _, m, L, by omega, by omega, by omega, rfl, rfl, by go_num, HT, HK'⟩, ?_⟩
            simp [intOf]
            omega
          · have d2 := (HP.out.p0.gr.trans HT.out.below).cell e2
            go_wp2_with (first
              | (at_builtin; refine wpList_append_own_at _ rfl _ _ 30 rfl w0.heap.size 3 i3 (.int .i64 0) 1 8 Try.underlying30 hi3 hz3 hy3 hb3 rfl (by decide) _ _ _ rfl (HT.out.r1.alloc _) ⟨wr.heap.size, 0, none⟩ 1 1 [.int .i64 x.2.1] rfl rfl (cell_one_new _ _ _) (by simp [Value.oneCell']) (by unfold maxLen; omega) (by omega) (by have := HT.out.below.size; simp; omega) ?_; intro v1 wh hown1 hgr1 hnl1 hat1; clear hnl1 hat1; obtain ⟨a3, c3, rfl, hH⟩ := HT.out.push1 (x := x.2) hown1 hgr1; have HH := hide hH; have d3 := (HP.out.p0.gr.trans hH.below).cell e3; clear hown1 hgr1 hH d1 d2)
              | (at_builtin; refine wpList_append_own_at _ rfl _ _ 50 rfl w0.heap.size 23 i23 (.float .f64 0) 1 8 Try.underlying50 hi23 hz23 hy23 hb23 rfl (by decide) _ _ _ rfl (HH.out.r2.alloc _) ⟨wh.heap.size, 0, none⟩ 1 1 [.float .f64 x.2.2] rfl rfl (cell_one_new _ _ _) (by simp [Value.oneCell']) (by unfold maxLen; omega) (by omega) (by have := HH.out.below.size; simp; omega) ?_; intro v2 wt hown2 hgr2 hnl2 hat2; clear hnl2 hat2; obtain ⟨a4, c4, rfl, hX⟩ := HH.out.push2 hown2 hgr2; have HX := hide hX; clear hown2 hgr2 hX d3 HH))
            obtain ⟨g1, rfl, -⟩ := own_at HX.out.r1 (i := m) (x := iv x.2) (by rw [List.map_append, List.getElem?_append_right (by simp [HT.out.len])]; simp [HT.out.len])
            obtain ⟨g2, rfl, -⟩ := own_at HX.out.r2 (i := m) (x := fv x.2) (by rw [List.map_append, List.getElem?_append_right (by simp [HT.out.len])]; simp [HT.out.len])
            have HI0 := hide (Ins.start HK.out.1 x.2)
            rw [HT.out.len] at HI0
            clear HT
            go_loopw [15] (fun v wr => ∃ (i : Nat) (L' : List Job), v = .int .i64 i ∧ i ≤ m ∧ Hid (Two w0 wr (some ⟨g1, 0, none⟩) c3 (some ⟨g2, 0, none⟩) c4 (m + 1) L') ∧ Hid (Ins L x.2 L' i)) (fun v _ => (intOf v).toNat)
            case atStart => exact ⟨m, L ++ [x.2], rfl, Nat.le_refl _, HX, HI0⟩
            case round =>
            clear HX HI0
            obtain ⟨i, L', rfl, him, HY, HI⟩ := hrel
            have hL' := HY.out.len
            cases i with
            | zero =>
              have hz : decide ((0 : Int) < 0) = false := by decide
              go_wp2_with fail
              go_region
              have HY' := hide (show Two w0 wr.drew (some ⟨g1, 0, none⟩) c3 (some ⟨g2, 0, none⟩) c4 (m + 1) L' from HY.out.drewN 1)
              have hS := HI.out.done (.inl rfl)
              have HK' := hide (HK.out.ins hp1 hx (by omega) HI.out hS)
              clear HI HK hx hS
              go_wp2
              refine ⟨⟨p + 1, _, _, _, _, m + 1, L', by omega, by omega, by omega, rfl, rfl, by go_num, HY', HK'⟩, ?_⟩
              simp [intOf]
              omega
            | succ i =>
              obtain ⟨u, hu⟩ : ∃ u, L'[i + 1]? = some u := ⟨_, List.getElem?_eq_getElem (by omega)⟩
              obtain ⟨v, hv⟩ : ∃ v, L'[i]? = some v := ⟨_, List.getElem?_eq_getElem (by omega)⟩
              obtain ⟨_, t1, q1⟩ := own_at HY.out.r1 (i := i + 1) (x := iv u) (by rw [List.getElem?_map, hu]; rfl)
              obtain rfl : g1 = _ := by simpa using t1
              obtain ⟨_, t2, q2⟩ := own_at HY.out.r2 (i := i + 1) (x := fv u) (by rw [List.getElem?_map, hu]; rfl)
              obtain rfl : g2 = _ := by simpa using t2
              obtain ⟨_, t3, q3⟩ := own_at HY.out.r1 (i := i) (x := iv v) (by rw [List.getElem?_map, hv]; rfl)
              obtain rfl : g1 = _ := by simpa using t3
              obtain ⟨_, t4, q4⟩ := own_at HY.out.r2 (i := i) (x := fv v) (by rw [List.getElem?_map, hv]; rfl)
              obtain rfl : g2 = _ := by simpa using t4
              clear t1 t2 t3 t4
              rw [Nat.zero_add] at q1 q2 q3 q4
              unfold iv at q1 q3
              unfold fv at q2 q4
              have hwi : IntKind.i64.wrap (i : Int) = i := by rw [IntKind.wrap_i64]; omega
              have hgt : decide ((0 : Int) < (i : Int) + 1) = true := decide_eq_true (by omega)
              have hdm := HK.out.dom HD.out
              have du : dom u.2 := by
                rcases (HI.out.mem u).1 (List.mem_of_getElem? hu) with h | h
                · exact hdm u h
                · rw [h]; exact HD.out p x hx (by omega)
              have dv' : dom v.2 := by
                rcases (HI.out.mem v).1 (List.mem_of_getElem? hv) with h | h
                · exact hdm v h
                · rw [h]; exact HD.out p x hx (by omega)
              have HDu := hide du
              have HDv := hide dv'
              clear du dv' hdm
              cases hl : less (u.1, u.2) (v.1, v.2) with
              | false =>
                go_wp2_with fail
                go_quiet (first | (go_at_call 14; exact Calls.quiet_of_same (less_any _ _ _ _ _)))
                have hS := HI.out.done (.inr ⟨u, v, hu, hv, less_false HDu.out HDv.out hl⟩)
                have HK' := hide (HK.out.ins hp1 hx (by omega) HI.out hS)
                have HY' := hide (HY.out.drewN nq)
                clear HI HK hx hS HY hu hv q1 q2 q3 q4 hl
                go_wp2
                refine ⟨⟨p + 1, _, _, _, _, m + 1, L', by omega, by omega, by omega, rfl, rfl, by go_num, HY', HK'⟩, ?_⟩
                simp [intOf]
                omega
              | true =>
                have HI' := hide (HI.out.swap hu hv (less_true hl))
                have f1 := HY.out.r1.frozenAt (i + 1)
                have f2 := HY.out.r1.frozenAt i
                have f3 := HY.out.r2.frozenAt (i + 1)
                have f4 := HY.out.r2.frozenAt i
                have hne1 : ¬ g1 = g2 := fun e => own_apart HY.out.r1 HY.out.r2 (by decide) g1 rfl (by rw [e]; rfl)
                have hne2 : ¬ g2 = g1 := fun e => hne1 e.symm
                go_wp2_with fail
                go_quiet (first | (go_at_call 14; exact Calls.quiet_of_same (less_any _ _ _ _ _)))
                have HY' := hide ((HY.out.drewN nq).swap (i := i) u v)
                unfold iv fv at HY'
                clear HI HK hx HY hu hv hl
                go_wp2
                refine ⟨⟨i, _, rfl, by omega, HY', HI'⟩, ?_⟩
                simp [intOf]
        · have hpp : p = lo + 16 ∨ (sl.length ≤ p ∧ p ≤ lo + 16) := by omega
          have HPp := hide hpp
          clear hpp
          obtain ⟨kb, hkb⟩ : ∃ kb : Nat, (B : Int) + b = kb := ⟨B + b, by omega⟩
          have hkM : kb < M := by omega
          have hkd : kb < 2 * 2 ^ d := by rw [HBd.out]; omega
          have HL := hide hkd
          obtain ⟨uz, huz⟩ : ∃ uz, csZ[kb]? = some uz := ⟨_, List.getElem?_eq_getElem (by rw [HP.out.zl]; exact hkd)⟩
          obtain ⟨ue, hue⟩ : ∃ ue, csE[kb]? = some ue := ⟨_, List.getElem?_eq_getElem (by rw [HP.out.el]; exact hkd)⟩
          have HUz := hide huz
          have HUe := hide hue
          have hkn : kb = 2 ^ d + b := by rw [HBd.out]; omega
          have HKn := hide hkn
          have hl16 : lo = 16 * b := by omega
          have HL16 := hide hl16
          clear hkd huz hue hkn hl16
          by_cases hpa : p < lo + 16
          · as_aux_lemma =>
            have hpb : ¬ p < n := fun h => hpc ⟨hpa, h⟩
            go_wp2_with fail
            refine (sweep_any a1 a2 m c1 c2 L _ (by omega) HT.out.pair HK.out.1 (HK.out.dom HD.out)).mono ?_
            rintro e5 w5 ⟨hg5, a5, c5, a6, c6, S, m5, rfl, hP5, hS5⟩
            have hG5 : Gr w0 w5 := HT.out.below.trans hg5
            have hN5 : Node sl d kb S := by
              rw [HKn.out]
              refine Node.leaf ?_
              rw [← HL16.out]
              exact HK.out.full HPp.out hS5
            have HP5 := hide (HP.out.step hG5)
            have HP6 := hide (HP5.out.put (c1 := c5) (c2 := c6) (lo' := B) (hi' := B + (b + 1)) HL.out hP5 hN5 (fun j h1 h2 => by omega))
            have z1 := (HP5.out.z.cell kb).trans HUz.out
            have z2 := HP5.out.z.frozen kb
            have z3 := (HP5.out.e.cell kb).trans HUe.out
            have z4 := HP5.out.e.frozen kb
            have hnz : ¬ bZ = bE := HP5.out.ne
            have hnz' : ¬ bE = bZ := fun e => hnz e.symm
            clear hg5 hG5 hP5 hS5 hN5 HT HK HP HPp HP5
            go_wp2
            refine ⟨⟨b + 1, _, _, by omega, by go_num, HP6⟩, ?_⟩
            simp [intOf]
            omega
          · as_aux_lemma =>
            go_wp2_with fail
            refine (sweep_any a1 a2 m c1 c2 L _ (by omega) HT.out.pair HK.out.1 (HK.out.dom HD.out)).mono ?_
            rintro e5 w5 ⟨hg5, a5, c5, a6, c6, S, m5, rfl, hP5, hS5⟩
            have hG5 : Gr w0 w5 := HT.out.below.trans hg5
            have hN5 : Node sl d kb S := by
              rw [HKn.out]
              refine Node.leaf ?_
              rw [← HL16.out]
              exact HK.out.full HPp.out hS5
            have HP5 := hide (HP.out.step hG5)
            have HP6 := hide (HP5.out.put (c1 := c5) (c2 := c6) (lo' := B) (hi' := B + (b + 1)) HL.out hP5 hN5 (fun j h1 h2 => by omega))
            have z1 := (HP5.out.z.cell kb).trans HUz.out
            have z2 := HP5.out.z.frozen kb
            have z3 := (HP5.out.e.cell kb).trans HUe.out
            have z4 := HP5.out.e.frozen kb
            have hnz : ¬ bZ = bE := HP5.out.ne
            have hnz' : ¬ bE = bZ := fun e => hnz e.symm
            clear hg5 hG5 hP5 hS5 hN5 HT HK HP HPp HP5
            go_wp2
            refine ⟨⟨b + 1, _, _, by omega, by go_num, HP6⟩, ?_⟩
            simp [intOf]
            omega
      · obtain rfl : B = b := by omega
        clear hb hbB
        obtain ⟨tB, htB⟩ : ∃ tB : Nat, (B : Int) - 1 = tB := ⟨B - 1, by omega⟩
        have HPa : Ph w w0 R n sl bZ bE csZ csE d (tB + 1) M := by
          rw [show tB + 1 = B by omega, show M = B + B by omega]
          exact HP.out
        have HPb := hide HPa
        have htl : tB < B := by omega
        clear HP HPa
        go_wp2_with fail
        go_loopw [20] (fun v wr => ∃ (t : Nat) (csZ csE : List Value), t < B ∧ v = .int .i64 t ∧ Hid (Ph w wr R n sl bZ bE csZ csE d (t + 1) M)) (fun v _ => (intOf v).toNat)
        case atStart => exact ⟨tB, csZ, csE, htl, rfl, HPb⟩
        case round =>
        clear HPb htl htB
        obtain ⟨t, csZ, csE, htl, rfl, HP⟩ := hrel
        by_cases ht0 : 1 ≤ t
        · as_aux_lemma =>
          obtain ⟨k2, hk2⟩ : ∃ k2 : Nat, 2 * (t : Int) = k2 := ⟨2 * t, by omega⟩
          obtain ⟨t1, ht1⟩ : ∃ t1 : Nat, (t : Int) - 1 = t1 := ⟨t - 1, by omega⟩
          have hk2M : k2 + 1 < M := by omega
          have hk2L : k2 < M := by omega
          have hk2I : (k2 : Int) < (M : Int) := by omega
          have hk2J : (k2 : Int) + 1 < (M : Int) := by omega
          have hk2N : (0 : Int) ≤ (k2 : Int) + 1 := by omega
          have hw2 : IntKind.i64.wrap (2 * (t : Int)) = k2 := by rw [hk2, IntKind.wrap_i64]; omega
          have hw2' : IntKind.i64.wrap (k2 : Int) = k2 := by rw [IntKind.wrap_i64]; omega
          have hw3 : IntKind.i64.wrap ((k2 : Int) + 1) = (k2 : Int) + 1 := by rw [IntKind.wrap_i64]; omega
          have hMd : M = 2 * 2 ^ d := by rw [HBd.out]; omega
          obtain ⟨a1, c1, a2, c2, SA, mA, x1, x2, x3, x4⟩ := HP.out.nodes k2 (by omega) (by omega)
          obtain ⟨a3, c3, a4, c4, SB, mB, y1, y2, y3, y4⟩ := HP.out.nodes (k2 + 1) (by omega) (by omega)
          obtain ⟨_, _, sA⟩ := node_stair x4 (by omega) (by omega)
          obtain ⟨_, _, sB⟩ := node_stair y4 (by omega) (by omega)
          have lA := sA.len
          have lB := sB.len
          have lA' := x3.len
          have lB' := y3.len
          have HSA := hide sA.sorted
          have HSB := hide sB.sorted
          have HDA := hide (fun j (hj : j ∈ SA) => (sA.mem j hj).dom HD.out)
          have HDB := hide (fun j (hj : j ∈ SB) => (sB.mem j hj).dom HD.out)
          have HX3 := hide x3
          have HY3 := hide y3
          have HX4 := hide x4
          have HY4 := hide y4
          have z1 := (HP.out.z.cell k2).trans x1
          have z2 := (HP.out.e.cell k2).trans x2
          have z3 := (HP.out.z.cell (k2 + 1)).trans y1
          have z4 := (HP.out.e.cell (k2 + 1)).trans y2
          have HMd := hide hMd
          clear x1 x2 x3 x4 y1 y2 y3 y4 sA sB hMd
          go_wp2_with fail
          go_region_held (fun w' => w'.cell? ⟨bZ, k2, none⟩ = some (.slice a1 mA c1) ∧ w'.cell? ⟨bE, k2, none⟩ = some (.slice a2 mA c2) ∧ w'.cell? ⟨bZ, k2 + 1, none⟩ = some (.slice a3 mB c3) ∧ w'.cell? ⟨bE, k2 + 1, none⟩ = some (.slice a4 mB c4)) (go_keep)
            (first | (go_at_call 16; refine (merge_any a1 a2 a3 a4 mA mB c1 c2 c3 c4 SA SB _ (by omega) (by omega) (HX3.out.gr (by exact (Gr.refl _).drew)) (HY3.out.gr (by exact (Gr.refl _).drew)) HSA.out HSB.out HDA.out HDB.out).mono ?_; rintro e5 w5 ⟨hg5, a5, c5, a6, c6, S, m5, ms, rfl, hP5, hm5, hS5⟩; have k1 := hg5.cell (show wr.drew.cell? _ = some _ from z1); have k2' := hg5.cell (show wr.drew.cell? _ = some _ from z2); have k3 := hg5.cell (show wr.drew.cell? _ = some _ from z3); have k4 := hg5.cell (show wr.drew.cell? _ = some _ from z4)))
          have hN5 : Node sl d t S := by
            have e1 : k2 = 2 * t := by omega
            rw [e1] at HX4 HY4
            exact Node.join (by rw [HBd.out]; exact htl) HX4.out HY4.out hm5 hS5
          have HP5 := hide (HP.out.step ((Gr.refl wr).drew.trans hg5))
          have htd : t < 2 * 2 ^ d := by rw [HBd.out]; omega
          have HP6 := hide (HP5.out.put (c1 := c5) (c2 := c6) (lo' := t1 + 1) (hi' := M) htd hP5 hN5 (fun j h1 h2 => by omega))
          obtain ⟨uz, huz⟩ : ∃ uz, csZ[t]? = some uz := ⟨_, List.getElem?_eq_getElem (by rw [HP5.out.zl]; exact htd)⟩
          obtain ⟨ue, hue⟩ : ∃ ue, csE[t]? = some ue := ⟨_, List.getElem?_eq_getElem (by rw [HP5.out.el]; exact htd)⟩
          have v1 := (HP5.out.z.cell t).trans huz
          have v2 := HP5.out.z.frozen t
          have v3 := (HP5.out.e.cell t).trans hue
          have v4 := HP5.out.e.frozen t
          have hnz : ¬ bZ = bE := HP5.out.ne
          have hnz' : ¬ bE = bZ := fun e => hnz e.symm
          have htM : t < M := by omega
          clear hg5 hP5 hS5 hN5 hm5 HP HP5 HX3 HX4 HY3 HY4 HSA HSB HDA HDB z1 z2 z3 z4 k1 k2' k3 k4 huz hue htd
          go_wp2
          refine ⟨⟨t1, _, _, by omega, by go_num, HP6⟩, ?_⟩
          simp [intOf]
          omega
        · obtain rfl : t = 0 := by omega
          have HPa : Ph w wr R n sl bZ bE csZ csE d 1 M := HP.out
          have HPb := hide HPa
          obtain ⟨bT, hbT⟩ : ∃ b, wr.heap.size = b := ⟨_, rfl⟩
          clear HP HPa
          go_wp2_with (at_make; refine wpList_make_full _ rfl _ _ 31 rfl R 32 i32 (.slice none 0 0) 1 Try.underlying31 hi32 hz32 hy32 .i64 .i64 _ _ M rfl rfl rfl rfl (by rw [hb32]; omega) (by unfold maxLen; omega) (by exact HPb.out.p0.size) ?_; intro w3 hown3 hgr3)
          obtain ⟨csT0, hPT0⟩ := pt_start HPb.out (by omega) hown3 hgr3
          rw [hbT] at hPT0
          have HT0 := hide hPT0
          clear hPT0 hown3 hgr3 HPb hbT
          go_loopw [24] (fun v wr => ∃ (k : Nat) (csT : List Value), 1 ≤ k ∧ k ≤ M ∧ v = .int .i64 k ∧ Hid (PT w wr R n sl bZ bE csZ csE d M bT csT k)) (fun v _ => M - (intOf v).toNat)
          case atStart => exact ⟨1, csT0, Nat.le_refl _, by omega, rfl, HT0⟩
          case round =>
          clear HT0
          obtain ⟨k, csT, hk1, hkM, rfl, HT⟩ := hrel
          obtain ⟨wk, rfl⟩ : ∃ wk : World, wk = wr := ⟨_, rfl⟩
          by_cases hkl : k < M
          · as_aux_lemma =>
            obtain ⟨a1, c1, a2, c2, S, m, x1, x2, x3, x4⟩ := HT.out.ph.nodes k hk1 hkl
            obtain ⟨_, _, sA⟩ := node_stair x4 hk1 (by rw [HBd.out]; omega)
            have lS := sA.len
            have lS' := x3.len
            have hkI : (k : Int) < (M : Int) := by omega
            have z1 := (HT.out.ph.z.cell k).trans x1
            have z2 := (HT.out.ph.e.cell k).trans x2
            have HX3 := hide x3
            have HX4 := hide x4
            obtain ⟨bS, hbS⟩ : ∃ b, wk.heap.size = b := ⟨_, rfl⟩
            have hRS : R < bS := by rw [← hbS]; exact HT.out.ph.p0.res.lt
            obtain ⟨ut, hut⟩ : ∃ ut, csT[k]? = some ut := ⟨_, List.getElem?_eq_getElem (by rw [HT.out.tl]; exact hkl)⟩
            have HUt := hide hut
            clear x1 x2 x3 x4 sA hut
            go_wp2_with (at_make; refine wpList_make_full _ rfl _ _ 32 rfl R 44 i44 (.agg #[.int .i64 0, .float .f64 0]) 2 Try.underlying32 hi44 hz44 hy44 .i64 .i64 _ _ m rfl rfl rfl rfl (by rw [hb44]; omega) (by unfold maxLen; omega) (by omega) ?_; intro w4 hown4 hgr4)
            rw [hbS] at hown4
            have HB0 := hide (blk_own hown4 rfl)
            have HG0 := hide (show Gr wk w4 from Below.grown (Below.refl _ _) hgr4 (Nat.le_refl _) (by simp))
            have HL0 : (madeCells (Value.agg #[.int .i64 0, .float .f64 0]).cells (m * 2)).toList.length = m * 2 := by simp [size_madeCells]
            clear hown4 hgr4
            go_loopw [26] (fun v wr => ∃ (i : Nat) (cs : List Value), i ≤ m ∧ v = .int .i64 i ∧ Hid (Gr wk wr) ∧ Hid (Blk wr bS 44 cs) ∧ Hid (Fill2 cs m i S)) (fun v _ => m - (intOf v).toNat)
            case atStart => exact ⟨0, _, Nat.zero_le _, rfl, HG0, HB0, ⟨HL0, fun j x _ h => by omega⟩⟩
            case round =>
            clear HB0 HG0 HL0
            obtain ⟨i, cs, him, rfl, HG, HB, HF⟩ := hrel
            by_cases hil : i < m
            · as_aux_lemma =>
              obtain ⟨x, hx⟩ : ∃ x, S[i]? = some x := ⟨_, List.getElem?_eq_getElem (by omega)⟩
              obtain ⟨b1, o1, b2, o2, rfl, rfl, e1, e2⟩ := HX3.out.at' i x hx
              have n1 : ¬ bS = bZ := by have := World.block_lt_of_cell? wk _ z1; simp at this; omega
              have n2 : ¬ bS = b1 := by have := World.block_lt_of_cell? wk _ e1; simp at this; omega
              have n3 : ¬ bS = bE := by have := World.block_lt_of_cell? wk _ z2; simp at this; omega
              have n4 : ¬ bS = b2 := by have := World.block_lt_of_cell? wk _ e2; simp at this; omega
              have d1 := HG.out.cell z1
              have d2 := HG.out.cell e1
              have d3 := HG.out.cell z2
              have d4 := HG.out.cell e2
              obtain ⟨⟨u1, t1⟩, u2, t2⟩ := HF.out.cells hil
              have HF' := hide (HF.out.step hil hx)
              have hiI : (i : Int) < (m : Int) := by omega
              clear HF hx
              go_wp2_with fail
              go_region_held (fun w' => w'.cell? ⟨bZ, k, none⟩ = some (.slice (some ⟨b1, o1, none⟩) m c1) ∧ w'.cell? ⟨b1, o1 + i, none⟩ = some (.int .i64 x.1) ∧ w'.cell? ⟨bE, k, none⟩ = some (.slice (some ⟨b2, o2, none⟩) m c2) ∧ w'.cell? ⟨b2, o2 + i, none⟩ = some (.float .f64 x.2)) (go_keep)
                (first | (go_at_call 17; refine (mkStep_any x _).mono ?_; rintro e4 w2 ⟨rfl, hg2⟩; have k1 := hg2.cell (show wr.drew.cell? _ = some _ from d1); have k2 := hg2.cell (show wr.drew.cell? _ = some _ from d2); have k3 := hg2.cell (show wr.drew.cell? _ = some _ from d3); have k4 := hg2.cell (show wr.drew.cell? _ = some _ from d4); have HB2 := hide ((HB.out.drew).gr hg2); have s1 := (HB2.out.cell (i * 2)).trans t1; have s2 := (HB2.out.cell (i * 2 + 1)).trans t2; have f1 := HB2.out.frozen (i * 2); have f2 := HB2.out.frozen (i * 2 + 1)))
              have HB' := hide ((HB2.out.set (i * 2) (.int .i64 x.1)).set (i * 2 + 1) (.float .f64 x.2))
              have HG' := hide (show Gr wk ((w2.setCell ⟨bS, i * 2, none⟩ (.int .i64 x.1)).setCell ⟨bS, i * 2 + 1, none⟩ (.float .f64 x.2)) from Below.setCell (Below.setCell (HG.out.drew.trans hg2) (by simp; omega) _) (by simp; omega) _)
              clear HB HG HB2 hg2 k1 k2 k3 k4 s1 s2 f1 f2 d1 d2 d3 d4 t1 t2
              go_wp2
              refine ⟨⟨i + 1, _, by omega, by go_num, HG', HB', HF'⟩, ?_⟩
              simp [intOf]
              omega
            · obtain rfl : m = i := by omega
              have hst := HF.out.steps lS' HB.out
              have HT5 := hide (HT.out.step HG.out)
              have HT6 := hide (HT5.out.put (c := m) hk1 hkl hRS lS' hst HX4.out)
              have v1 := (HT5.out.t.cell k).trans HUt.out
              have v2 := HT5.out.t.frozen k
              clear HT HT5 HF HB HG HX3 HX4 HUt hst z1 z2 hbS
              go_wp2
              refine ⟨⟨k + 1, _, by omega, by omega, by go_num, HT6⟩, ?_⟩
              simp [intOf]
              omega
          · obtain rfl : M = k := by omega
            obtain ⟨T, hQ⟩ := HT.out.full
            have HQ := hide hQ
            have hG := hide HT.out.ph.p0.gr
            have hB := hide HT.out.ph.p0.res
            clear HT hQ
            go_wp2_with fail
            refine (newQueue_any _ _ _ _ _ _ _ _ _).mono ?_
            rintro e6 w6 ⟨rfl, hg6⟩
            have HQ6 := hide (HQ.out.step hg6)
            have HG6 := hide (hG.out.trans hg6)
            have HB6 := hide (hB.out.gr hg6)
            have s0 : w6.cell? ⟨R, 0, none⟩ = some (.slice none 0 0) := HB6.out.cell 0
            have s1 : w6.cell? ⟨R, 1, none⟩ = some (.slice none 0 0) := HB6.out.cell 1
            have s2 : w6.cell? ⟨R, 2, none⟩ = some (.slice none 0 0) := HB6.out.cell 2
            have s3 : w6.cell? ⟨R, 3, none⟩ = some (.slice none 0 0) := HB6.out.cell 3
            have s4 : w6.cell? ⟨R, 4, none⟩ = some (.int .i64 0) := HB6.out.cell 4
            have s5 : w6.cell? ⟨R, 5, none⟩ = some (.int .i64 0) := HB6.out.cell 5
            have s6 : w6.cell? ⟨R, 6, none⟩ = some (.int .i64 0) := HB6.out.cell 6
            have s7 : w6.cell? ⟨R, 7, none⟩ = some (.slice none 0 0) := HB6.out.cell 7
            have s8 : w6.cell? ⟨R, 8, none⟩ = some (.slice none 0 0) := HB6.out.cell 8
            have s9 : w6.cell? ⟨R, 9, none⟩ = some (.bool false) := HB6.out.cell 9
            have s10 : w6.cell? ⟨R, 10, none⟩ = some (.slice none 0 0) := HB6.out.cell 10
            have f0 := HB6.out.frozen 0
            have f1 := HB6.out.frozen 1
            have f2 := HB6.out.frozen 2
            have f3 := HB6.out.frozen 3
            have f4 := HB6.out.frozen 4
            have f5 := HB6.out.frozen 5
            have f6 := HB6.out.frozen 6
            have f7 := HB6.out.frozen 7
            have f8 := HB6.out.frozen 8
            have f9 := HB6.out.frozen 9
            have f10 := HB6.out.frozen 10
            unfold qval
            have hM2 : M = 2 * 2 ^ d := by rw [HBd.out]; omega
            have HM2 := hide hM2
            have hcnt : sl.length ≤ 16 * 2 ^ d := by rw [HBd.out]; omega
            have HCn := hide hcnt
            clear hM2 hcnt
            go_wp2
            refine bodyPost_ret (results_cell_row rfl _ _ R 35 _ (0, 0) _ rfl (wfin_blk HB6.out _ _ _ _ _ _ _ _ _ _ _) Try.underlying35 rfl Try.size35) rfl ?_
            obtain ⟨y1, y2⟩ := HQ6.out.fin (w' := wfin w6 R _ _ _ _ _ _ _ _ _ _ _) (fun b hb => wfin_other w6 R _ _ _ _ _ _ _ _ _ _ _ b hb)
            refine ⟨wfin_gr HG6.out hR _ _ _ _ _ _ _ _ _ _ _, _, d, f, T, rfl, ⟨_, _, _, _, _, by rw [hlen, HQ6.out.tl]; rfl, by rw [hlen]; exact y1, by rw [HQ6.out.tl]; exact y2⟩, ⟨by rw [HQ6.out.tl]; exact HM2.out, HQ6.out.node, HCn.out, hd8, HD.out, by rw [hlen]; exact HFs.out.le, fun p x hx hp => HFs.out.low p x hx hp (by have := (List.getElem?_eq_some_iff.1 hx).1; omega)⟩⟩

end Go.Proofs.Qxb6604754a
