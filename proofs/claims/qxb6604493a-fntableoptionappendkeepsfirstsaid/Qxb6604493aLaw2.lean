import Derived.Test.Qxb6604493aExt
namespace Go.Proofs.Qxb6604493a
open Go.RowKit

theorem ext_cases (q nm v : ByteArray) (os : List (ByteArray × ByteArray)) :
    (∃ fv, find q os = (fv, true) ∧ find q (os ++ [(nm, v)]) = (fv, true)) ∨
    (find q os = (⟨#[]⟩, false) ∧ find q (os ++ [(nm, v)]) = (v, true) ∧ (q.toList == nm.toList) = true) ∨
    (find q os = (⟨#[]⟩, false) ∧ find q (os ++ [(nm, v)]) = (⟨#[]⟩, false) ∧ (q.toList == nm.toList) = false) := by
  have ha := find_app q os (nm, v)
  have hc : (q.toList == nm.toList) = (nm.toList == q.toList) := by rw [Bool.eq_iff_iff, beq_iff_eq, beq_iff_eq]; exact eq_comm
  cases h0 : (find q os).2 with
  | true =>
    rw [if_pos h0] at ha
    exact .inl ⟨(find q os).1, Prod.ext rfl h0, ha.trans (Prod.ext rfl h0)⟩
  | false =>
    rw [if_neg (by rw [h0]; simp)] at ha
    have h1 := find_snd q os h0
    cases hm : (nm.toList == q.toList) with
    | true => exact .inr (.inl ⟨h1, by rw [ha, find_hit q _ _ hm], by rw [hc, hm]⟩)
    | false => exact .inr (.inr ⟨h1, by rw [ha, find_miss q _ _ hm]; rfl, by rw [hc, hm]⟩)

set_option maxRecDepth 10000 in
set_option maxHeartbeats 2000000 in
theorem law2 (a : Option Addr) (n c : Nat) (nm v q : ByteArray) (os : List (ByteArray × ByteArray)) (w : World) (hm : n ≤ 9223372036854775807) (h : Opts w a n os) :
    Calls Try.prog 4 #[.slice a n c, .string nm, .string v, .string q] w fun e w' => e = .returned (.bool true) ∧ Below w.heap.size w w' := by
  have c9 := hide (bytes9 a n c os nm v q w hm h)
  have HC := hide h
  clear h
  by_cases hbig : n ≤ 65536 ∧ nm.size ≤ 1048576 ∧ v.size ≤ 1048576 ∧ q.size ≤ 1048576
  · obtain ⟨hn, hnm, hv, hq⟩ := hbig
    obtain ⟨i0, hi, hz0, hz1, hz2⟩ := info_parts Try.info47
    have c6 := hide (obytes_any a n c os w hn HC.out)
    go_enter Try.func4, Try.ntmps4
    go_wp2_with fail
    refine c9.out.mono ?_
    rintro e w1 ⟨⟨r, rfl⟩, rfl⟩
    cases r with
    | false =>
      go_wp2
      go_ret
      exact ⟨rfl, Below.refl _ _⟩
    | true =>
    go_wp2_with fail
    refine c6.out.mono ?_
    rintro e w1 ⟨⟨t, rfl, ht0, ht1⟩, nq, rfl⟩
    clear c9 c6
    by_cases hsum : t + nm.size + v.size + q.size ≤ 1048576
    · go_wp2_with fail
      refine (to_any a n c os _ hn (HC.out.drewN nq)).mono ?_
      rintro e w2 ⟨rfl, hrow⟩
      have hb2 : Below w.heap.size w w2 := Below.trans (b := w.drewN nq) ⟨rfl, rfl, rfl, Nat.le_refl _, fun _ _ => rfl⟩ hrow.1
      have HO := hide (hrow.opts HC.out.1)
      have hs2 : w.heap.size < w2.heap.size := hrow.2.1
      clear hrow
      go_wp2_with (at_make; refine wpList_make_full _ rfl _ _ 26 rfl (w2.heap.size + 1) 47 i0 (.agg #[.string ⟨#[]⟩, .string ⟨#[]⟩]) 2 Try.underlying26 hi hz0 hz1 .i64 .i64 (n + 1) (n + 1) (n + 1) rfl rfl (by omega) (by omega) (by rw [hz2]; omega) (by unfold maxLen; omega) (by simp) ?_; intro w3 hown hgr; rw [World.size_alloc] at hown)
      obtain ⟨os', hos'⟩ : ∃ os', os' = os ++ [(nm, v)] := ⟨_, rfl⟩
      obtain ⟨wT, hR, hbT, hsT, hcT⟩ : ∃ wT : World, RowG wT (w2.heap.size + 1) w3 (n + 1) 0 os' ∧ Below w2.heap.size w2 wT ∧ wT.heap.size = w2.heap.size + 1 ∧ wT.cell? ⟨w2.heap.size, 3, none⟩ = some (.slice (some ⟨w.heap.size, 0, none⟩) n n) :=
        ⟨_, rowg_first (by simp) hown hgr, (Below.refl _ _).alloc (Nat.le_refl _) _, by simp, by simp⟩
      have hbw : Below w.heap.size w wT := hb2.trans (hbT.mono (by omega))
      have HR := hide hR
      have HT := hide hcT
      have HOT := hide (HO.out.below hbT)
      have HOS := hide hos'
      clear hown hgr hR hcT hos' HO hbT
      go_loopw [11] (fun i wr => ∃ k : Nat, k ≤ n ∧ i = .int .i64 k ∧ RowG wT (w2.heap.size + 1) wr (n + 1) k os') (fun i _ => n - (intOf i).toNat)
      case atStart => exact ⟨0, Nat.zero_le _, rfl, HR.out⟩
      case round =>
      obtain ⟨k, hk, rfl, hrow⟩ := hrel
      clear HR
      by_cases hlt : k < n
      · obtain ⟨b, off, p1, p2, rfl, hp, hn0, hv0⟩ := HC.out.2 k hlt
        have hb : b < w.heap.size := World.block_lt_of_cell? w _ hn0
        have hn1 : wr.cell? ⟨b, off + k * 2, none⟩ = some (.string p1) := (hrow.1.cell (p := ⟨b, off + k * 2, none⟩) (show b < w2.heap.size + 1 by omega)).trans ((hbw.cell (by exact hb)).trans hn0)
        have hv1 : wr.cell? ⟨b, off + k * 2 + 1, none⟩ = some (.string p2) := (hrow.1.cell (p := ⟨b, off + k * 2 + 1, none⟩) (show b < w2.heap.size + 1 by omega)).trans ((hbw.cell (by exact hb)).trans hv0)
        obtain ⟨⟨x, hx⟩, ⟨y, hy⟩, hfx, hfy⟩ := hrow.2.2.1 k (by omega)
        have hp' : os'[k]? = some (p1, p2) := by rw [HOS.out, List.getElem?_append_left (by have := HC.out.1; omega)]; exact hp
        have HW := hide (hrow.step (by omega) p1 p2 hp')
        clear hrow hp hn0 hv0 hp'
        go_wp2
        go_region
        all_goals
          go_wp2
          go_roundw
          case rel => exact ⟨k + 1, by omega, by go_num, HW.out⟩
          case measure => simp [intOf]; omega
      · obtain rfl : k = n := by omega
        obtain ⟨⟨x, hx⟩, ⟨y, hy⟩, hfx, hfy⟩ := hrow.2.2.1 k (by omega)
        have hp' : os'[k]? = some (nm, v) := by
          rw [HOS.out, List.getElem?_append_right (by have := HC.out.1; omega)]
          simp [HC.out.1]
        have hW := (hrow.step (by omega) nm v hp').undrew
        have hlen' : os'.length = k + 1 := by rw [HOS.out]; simp [HC.out.1]
        have HO2 := hide (hW.opts hlen')
        have hB5 := hW.1
        have hB5s := hW.2.1
        have hT5 := (hB5.cell (p := ⟨w2.heap.size, 3, none⟩) (show w2.heap.size < w2.heap.size + 1 by omega)).trans HT.out
        have hO5 := HOT.out.same (w' := (wr.setCell ⟨w2.heap.size + 1, k * 2, none⟩ (.string nm)).setCell ⟨w2.heap.size + 1, k * 2 + 1, none⟩ (.string v)) (fun x hx _ o => hB5.cell (p := ⟨x.block, o, none⟩) (by have : x.block = w.heap.size := (by simpa using (congrArg (fun z => z.map (·.block)) hx).symm); show x.block < _; omega))
        have hop1 := option_any w2.heap.size k k (some ⟨w.heap.size, 0, none⟩) q os _ (by omega) hT5 hO5
        have hBw5 := hbw.trans (hB5.mono (by omega))
        have HOP1 := hide hop1
        have HBW5 := hide hBw5
        have HB5S := hide hB5s
        clear hop1 hT5 hO5 hB5 hrow hW hp' hlen' hBw5 hB5s
        rcases ext_cases q nm v os with ⟨fv, f0, f1⟩ | ⟨f0, f1, ht⟩ | ⟨f0, f1, ht⟩
        all_goals
          rw [← HOS.out] at f1
          rw [f0] at HOP1
          have F1 := hide f1
          clear f0 f1
          go_wp2_with fail
          refine HOP1.out.mono ?_
          rintro e w6 ⟨rfl, hb6⟩
          have HO6 := hide (HO2.out.below hb6)
          have hs6 := hb6.size
          have hsw := HBW5.out.size
          have hs5 := HB5S.out
          simp only [World.size_setCell] at hs6 hsw hs5
          have hbw6 := HBW5.out.trans (hb6.mono (by simp only [World.size_setCell]; omega))
          clear hb6 HOP1
          go_wp2_with fail
          refine (option_any w6.heap.size (k + 1) (k + 1) (some ⟨w2.heap.size + 1, 0, none⟩) q os' _ (by omega) (by simp) (by exact HO6.out.below ((Below.refl _ _).alloc (Nat.le_refl _) _))).mono ?_
          rintro e w7 ⟨rfl, hb7⟩
          rw [F1.out]
          have hfin := (hbw6.alloc (by omega) _).trans (hb7.mono (by simp; omega))
          clear hb7 hbw6
          go_wp2
          go_ret
          exact ⟨by simp, hfin⟩
    · go_wp2
      go_ret
      exact ⟨rfl, ⟨rfl, rfl, rfl, Nat.le_refl _, fun _ _ => rfl⟩⟩
  · go_enter Try.func4, Try.ntmps4
    go_wp2_with fail
    refine c9.out.mono ?_
    rintro e w1 ⟨⟨r, rfl⟩, rfl⟩
    cases r with
    | false =>
      go_wp2
      go_ret
      exact ⟨rfl, Below.refl _ _⟩
    | true =>
      by_cases h1 : n ≤ 65536
      · by_cases h2 : nm.size ≤ 1048576
        · by_cases h3 : v.size ≤ 1048576
          · have h4 : ¬ q.size ≤ 1048576 := fun h => hbig ⟨h1, h2, h3, h⟩
            clear hbig
            go_wp2
            go_ret
            exact ⟨rfl, Below.refl _ _⟩
          · clear hbig
            go_wp2
            go_ret
            exact ⟨rfl, Below.refl _ _⟩
        · clear hbig
          go_wp2
          go_ret
          exact ⟨rfl, Below.refl _ _⟩
      · clear hbig
        go_wp2
        go_ret
        exact ⟨rfl, Below.refl _ _⟩

end Go.Proofs.Qxb6604493a
