import Derived.Test.Qxb6604321aRtl
namespace Go.Proofs.Qxb6604321a
open Go.RowKit

set_option maxRecDepth 10000 in
set_option maxHeartbeats 2000000 in
theorem rtl_any (t : ByteArray) (plus : Bool) (w : World) (ht : t.size ≤ 4194304) (hp : PG (bytesOf t)) :
    Calls Try.prog 15 #[.string t, .bool plus] w fun e w' => ∃ a c, e = .returned (.slice a (dec plus (bytesOf t)).1.length c) ∧ Owns w' w.heap.size a (dec plus (bytesOf t)).1.length c (dec plus (bytesOf t)).1 ∧ Below w.heap.size w w' := by
  obtain ⟨i0, hi, hz0, hz1, hz2⟩ := info_parts Try.info5
  have HPG := hide hp
  have HSL := hide (bytesOf_len t)
  obtain ⟨D, hD⟩ : ∃ D, (dec plus (bytesOf t)).1 = D := ⟨_, rfl⟩
  rw [hD]
  have HDD := hide hD
  clear hp hD
  go_enter Try.func15, Try.ntmps15
  go_wp2_with (at_make; refine wpList_make_own _ rfl _ _ 22 rfl w.heap.size 5 i0 (.int .u8 0) 1 Try.underlying22 hi hz0 hz1 .i64 .i64 t.size t.size rfl rfl rfl (by rw [hz2]; omega) (by unfold maxLen; omega) (Nat.le_refl _) ?_; intro w5 hown hgr)
  have HE := hide (show ERel w w5 w.heap.size t.size [] from ⟨hown, (Below.refl _ _).grown hgr (Nat.le_refl _) (by simp), by have := hown.lt _ rfl; omega⟩)
  clear hown hgr
  go_loopw [5, 6] (fun v i wr => ∃ (k : Nat) (rev : List Int), i = .int .i64 k ∧ v = .slice (some ⟨w.heap.size, 0, none⟩) rev.length t.size ∧ ERel w wr w.heap.size t.size rev ∧ RL plus (bytesOf t) k rev) (fun _ i _ => (intOf i).toNat)
  case atStart => exact ⟨t.size, [], rfl, rfl, HE.out, by have := rl_start plus (bytesOf t) HPG.out; rw [HSL.out] at this; exact this⟩
  case round =>
  obtain ⟨k, rev, rfl, rfl, her, hrl⟩ := hrel
  clear HE
  have hkl := hrl.1
  have hrk := hrl.2.2.2.1
  rw [HSL.out] at hkl hrk
  obtain ⟨n, hn⟩ : ∃ n, rev.length = n := ⟨_, rfl⟩
  rw [hn]
  rw [hn] at hrk
  have HN := hide hn
  have HER := hide her
  have HRL := hide hrl
  have hrow := her.1
  have hsz := her.2.2
  rw [hn] at hrow
  clear hn her hrl
  by_cases hk0 : 0 < k
  · by_cases hk3 : 3 ≤ k
    · obtain ⟨i, rfl⟩ : ∃ i, k = i + 3 := ⟨k - 3, by omega⟩
      obtain ⟨xi, hxi⟩ : ∃ x : Int, (↑(t[i]'(by omega)).toNat : Int) = x := ⟨_, rfl⟩
      have hxib := byte_bd (t[i]'(by omega))
      have hxig := bytesOf_get t (i) (by omega)
      rw [hxi] at hxib hxig
      have HXI := hide hxig
      clear hxig
      by_cases h37 : xi = 37
      · have G := hide (rl_esc HRL.out (by rw [HXI.out]; exact h37))
        have t37 : (xi == 37) = true := by simp [h37]
        clear h37
        obtain ⟨xy, hxy⟩ : ∃ x : Int, (↑(t[i + 1]'(by omega)).toNat : Int) = x := ⟨_, rfl⟩
        have hxyb := byte_bd (t[i + 1]'(by omega))
        have hxyg := bytesOf_get t (i + 1) (by omega)
        rw [hxy] at hxyb hxyg
        have HXY := hide hxyg
        clear hxyg
        obtain ⟨xz, hxz⟩ : ∃ x : Int, (↑(t[i + 2]'(by omega)).toNat : Int) = x := ⟨_, rfl⟩
        have hxzb := byte_bd (t[i + 2]'(by omega))
        have hxzg := bytesOf_get t (i + 2) (by omega)
        rw [hxz] at hxzb hxzg
        have HXZ := hide hxzg
        clear hxzg
        rw [HXY.out, HXZ.out] at G
        have hhy := hexN_bd xy
        have hhz := hexN_bd xz
        obtain ⟨ny, hny⟩ : ∃ ny, hexN xy = ny := ⟨_, rfl⟩
        obtain ⟨nz, hnz⟩ : ∃ nz, hexN xz = nz := ⟨_, rfl⟩
        have cy := hide (tab_any xy wr hxyb.1 hxyb.2)
        have cz := hide (tab_any xz wr hxzb.1 hxzb.2)
        rw [hny] at hhy cy
        rw [hnz] at hhz cz
        rw [hny, hnz] at G
        clear hny hnz
        go_wp2_with fail
        refine cy.out.mono ?_
        rintro e w2 ⟨rfl, rfl⟩
        go_wp2_with fail
        refine cz.out.mono ?_
        rintro e w2 ⟨rfl, rfl⟩
        clear cy cz
        go_wp2_with (at_builtin; refine wpList_append_fits _ rfl (.tmp 46) (.tmp 51) 22 rfl w.heap.size 5 i0 1 Try.underlying22 hi hz1 w.heap.size n t.size (rev.map (Value.int .u8)) rfl (hrow.alloc _) ⟨wr.heap.size, 0, none⟩ 1 1 [.int .u8 (ny * 16 + nz)] rfl rfl (cell_one_new _ _ _) (by simp [Value.oneCell']) (by omega) ?_; intro w6 hown6 hgr6)
        have HP := hide (HER.out.push [(ny * 16 + nz)] rfl (by rw [HN.out]; exact hown6) hgr6)
        have HL2 := hide (show (rev ++ [(ny * 16 + nz)]).length = n + 1 by simp [HN.out])
        go_roundw
        case rel => exact ⟨i, rev ++ [(ny * 16 + nz)], by go_num, by rw [HL2.out], HP.out, G.out.1⟩
        case measure => simp [intOf] <;> omega
      · have t37 : (xi == 37) = false := by simpa using h37
        have H37 := hide h37
        clear h37
        obtain ⟨xj, hxj⟩ : ∃ x : Int, (↑(t[i + 2]'(by omega)).toNat : Int) = x := ⟨_, rfl⟩
        have hxjb := byte_bd (t[i + 2]'(by omega))
        have hxjg := bytesOf_get t (i + 2) (by omega)
        rw [hxj] at hxjb hxjg
        have HXJ := hide hxjg
        clear hxjg
        have G := hide (rl_plain (k := i + 2) HRL.out (fun q => H37.out (by have := q.2; rw [show i + 2 - 2 = i by omega, HXI.out] at this; exact this)) (by rw [HXJ.out]; exact hxjb))
        have hfr := G.out.2.2.2.1
        rw [HXJ.out] at G
        cases plus with
        | false =>
          have e0 : plusOf false xj = xj := by simp [plusOf]
          rw [e0] at G
          clear e0 hfr
          go_wp2_with (at_builtin; refine wpList_append_fits _ rfl (.tmp 64) (.tmp 66) 22 rfl w.heap.size 5 i0 1 Try.underlying22 hi hz1 w.heap.size n t.size (rev.map (Value.int .u8)) rfl (hrow.alloc _) ⟨wr.heap.size, 0, none⟩ 1 1 [.int .u8 xj] rfl rfl (cell_one_new _ _ _) (by simp [Value.oneCell']) (by omega) ?_; intro w6 hown6 hgr6)
          have HP := hide (HER.out.push [xj] rfl (by rw [HN.out]; exact hown6) hgr6)
          have HL2 := hide (show (rev ++ [xj]).length = n + 1 by simp [HN.out])
          go_roundw
          case rel => exact ⟨i + 2, rev ++ [xj], by go_num, by rw [HL2.out], HP.out, G.out⟩
          case measure => simp [intOf] <;> omega
        | true =>
          by_cases h43 : xj = 43
          · have e0 : plusOf true xj = 32 := by simp [plusOf, h43]
            rw [e0] at G
            have t43 : (xj == 43) = true := by simp [h43]
            clear e0 h43 hfr
            go_wp2_with (at_builtin; refine wpList_append_fits _ rfl (.tmp 64) (.tmp 66) 22 rfl w.heap.size 5 i0 1 Try.underlying22 hi hz1 w.heap.size n t.size (rev.map (Value.int .u8)) rfl (hrow.alloc _) ⟨wr.heap.size, 0, none⟩ 1 1 [.int .u8 32] rfl rfl (cell_one_new _ _ _) (by simp [Value.oneCell']) (by omega) ?_; intro w6 hown6 hgr6)
            have HP := hide (HER.out.push [32] rfl (by rw [HN.out]; exact hown6) hgr6)
            have HL2 := hide (show (rev ++ [32]).length = n + 1 by simp [HN.out])
            go_roundw
            case rel => exact ⟨i + 2, rev ++ [32], by go_num, by rw [HL2.out], HP.out, G.out⟩
            case measure => simp [intOf] <;> omega
          · have e0 : plusOf true xj = xj := by simp [plusOf, h43]
            rw [e0] at G
            have t43 : (xj == 43) = false := by simpa using h43
            clear e0 h43 hfr
            go_wp2_with (at_builtin; refine wpList_append_fits _ rfl (.tmp 64) (.tmp 66) 22 rfl w.heap.size 5 i0 1 Try.underlying22 hi hz1 w.heap.size n t.size (rev.map (Value.int .u8)) rfl (hrow.alloc _) ⟨wr.heap.size, 0, none⟩ 1 1 [.int .u8 xj] rfl rfl (cell_one_new _ _ _) (by simp [Value.oneCell']) (by omega) ?_; intro w6 hown6 hgr6)
            have HP := hide (HER.out.push [xj] rfl (by rw [HN.out]; exact hown6) hgr6)
            have HL2 := hide (show (rev ++ [xj]).length = n + 1 by simp [HN.out])
            go_roundw
            case rel => exact ⟨i + 2, rev ++ [xj], by go_num, by rw [HL2.out], HP.out, G.out⟩
            case measure => simp [intOf] <;> omega
    · obtain ⟨i, rfl⟩ : ∃ i, k = i + 1 := ⟨k - 1, by omega⟩
      obtain ⟨xj, hxj⟩ : ∃ x : Int, (↑(t[i]'(by omega)).toNat : Int) = x := ⟨_, rfl⟩
      have hxjb := byte_bd (t[i]'(by omega))
      have hxjg := bytesOf_get t (i) (by omega)
      rw [hxj] at hxjb hxjg
      have HXJ := hide hxjg
      clear hxjg
      have G := hide (rl_plain (k := i) HRL.out (fun q => by have := q.1; omega) (by rw [HXJ.out]; exact hxjb))
      have hfr := G.out.2.2.2.1
      rw [HXJ.out] at G
      cases plus with
      | false =>
        have e0 : plusOf false xj = xj := by simp [plusOf]
        rw [e0] at G
        clear e0 hfr
        go_wp2_with (at_builtin; refine wpList_append_fits _ rfl (.tmp 64) (.tmp 66) 22 rfl w.heap.size 5 i0 1 Try.underlying22 hi hz1 w.heap.size n t.size (rev.map (Value.int .u8)) rfl (hrow.alloc _) ⟨wr.heap.size, 0, none⟩ 1 1 [.int .u8 xj] rfl rfl (cell_one_new _ _ _) (by simp [Value.oneCell']) (by omega) ?_; intro w6 hown6 hgr6)
        have HP := hide (HER.out.push [xj] rfl (by rw [HN.out]; exact hown6) hgr6)
        have HL2 := hide (show (rev ++ [xj]).length = n + 1 by simp [HN.out])
        go_roundw
        case rel => exact ⟨i, rev ++ [xj], by go_num, by rw [HL2.out], HP.out, G.out⟩
        case measure => simp [intOf] <;> omega
      | true =>
        by_cases h43 : xj = 43
        · have e0 : plusOf true xj = 32 := by simp [plusOf, h43]
          rw [e0] at G
          have t43 : (xj == 43) = true := by simp [h43]
          clear e0 h43 hfr
          go_wp2_with (at_builtin; refine wpList_append_fits _ rfl (.tmp 64) (.tmp 66) 22 rfl w.heap.size 5 i0 1 Try.underlying22 hi hz1 w.heap.size n t.size (rev.map (Value.int .u8)) rfl (hrow.alloc _) ⟨wr.heap.size, 0, none⟩ 1 1 [.int .u8 32] rfl rfl (cell_one_new _ _ _) (by simp [Value.oneCell']) (by omega) ?_; intro w6 hown6 hgr6)
          have HP := hide (HER.out.push [32] rfl (by rw [HN.out]; exact hown6) hgr6)
          have HL2 := hide (show (rev ++ [32]).length = n + 1 by simp [HN.out])
          go_roundw
          case rel => exact ⟨i, rev ++ [32], by go_num, by rw [HL2.out], HP.out, G.out⟩
          case measure => simp [intOf] <;> omega
        · have e0 : plusOf true xj = xj := by simp [plusOf, h43]
          rw [e0] at G
          have t43 : (xj == 43) = false := by simpa using h43
          clear e0 h43 hfr
          go_wp2_with (at_builtin; refine wpList_append_fits _ rfl (.tmp 64) (.tmp 66) 22 rfl w.heap.size 5 i0 1 Try.underlying22 hi hz1 w.heap.size n t.size (rev.map (Value.int .u8)) rfl (hrow.alloc _) ⟨wr.heap.size, 0, none⟩ 1 1 [.int .u8 xj] rfl rfl (cell_one_new _ _ _) (by simp [Value.oneCell']) (by omega) ?_; intro w6 hown6 hgr6)
          have HP := hide (HER.out.push [xj] rfl (by rw [HN.out]; exact hown6) hgr6)
          have HL2 := hide (show (rev ++ [xj]).length = n + 1 by simp [HN.out])
          go_roundw
          case rel => exact ⟨i, rev ++ [xj], by go_num, by rw [HL2.out], HP.out, G.out⟩
          case measure => simp [intOf] <;> omega
  · obtain rfl : k = 0 := by omega
    have hrev := rl_end HRL.out
    rw [HDD.out] at hrev
    have hb := HRL.out.2.2.2.2
    have HREV := hide hrev
    have HBD := hide hb
    clear hrev hb hkl
    have hdl : D.length = n := by rw [HREV.out]; simp [HN.out]
    have HDL := hide hdl
    clear hdl
    go_wp2_with (at_make; refine wpList_make_full _ rfl _ _ 22 rfl w.heap.size 5 i0 (.int .u8 0) 1 Try.underlying22 hi hz0 hz1 .i64 .i64 n n n rfl rfl rfl rfl (by rw [hz2]; omega) (by unfold maxLen; omega) (by omega) ?_; intro wa hown hgr)
    have hbe : Below wr.heap.size wr wa := (Below.refl _ _).grown hgr (Nat.le_refl _) (by simp)
    have hrow2 := own_below hrow hbe
    clear hgr hrow
    obtain ⟨wb, rfl⟩ : ∃ wb : World, wb = wr := ⟨_, rfl⟩
    have hcellr : ∀ j, j < n → wa.cell? ⟨w.heap.size, j, none⟩ = some (.int .u8 (rev.getD j 0)) := fun j hj => by
      rw [hrow2.cellAt j (by omega)]; simp [HN.out, hj]
    have hbw : Below w.heap.size w wa := HER.out.2.1.trans (hbe.mono (by omega))
    have HCR := hide hcellr
    have HBW := hide hbw
    clear hcellr hbw hrow2
    go_loopw [13] (fun i wr => ∃ k : Nat, k ≤ n ∧ i = .int .i64 k ∧ wr.ownsRow wb.heap.size 5 1 (.slice (some ⟨wb.heap.size, 0, none⟩) n n) n ((D.take k ++ List.replicate (n - k) 0).map (Value.int .u8)) ∧ Below wb.heap.size wa wr) (fun i _ => n - (intOf i).toNat)
    case atStart =>
      refine ⟨0, Nat.zero_le _, rfl, ?_, Below.refl _ _⟩
      rw [show (Value.int .u8 0).cells = #[Value.int .u8 0] from rfl, toList_madeCells_one] at hown
      have h2 : wa.ownsRow wb.heap.size 5 1 (.slice (some ⟨wb.heap.size, 0, none⟩) n n) n (List.replicate (n * 1) (Value.int .u8 0)) := by
        refine ⟨hown.1, ?_⟩
        rcases hown.2 with ⟨q, -⟩ | ⟨g, cap, cur, q, -, r⟩
        · simp at q
        · have : g = wb.heap.size := by simp at q; exact q.1.symm
          exact .inr ⟨g, cap, cur, q, by omega, r⟩
      simpa using h2
    case round =>
    obtain ⟨k, hk, rfl, hrow, hbel⟩ := hrel
    clear hown
    by_cases hlt : k < n
    · have hcell : wr.cell? ⟨w.heap.size, n - 1 - k, none⟩ = some (.int .u8 (rev.getD (n - 1 - k) 0)) := (hbel.cell (by exact hsz)).trans (HCR.out _ (by omega))
      have hst := hrow.stored k (.int .u8 (D.getD k 0))
      rw [set_copy D n k HDL.out hlt] at hst
      have hdr : D.getD k 0 = rev.getD (n - 1 - k) 0 := by
        rw [HREV.out]
        simp only [List.getD_eq_getElem?_getD]
        rw [List.getElem?_reverse (by rw [HN.out]; exact hlt), HN.out]
      rw [hdr] at hst
      obtain ⟨c, hcz⟩ : ∃ c, c = rev.getD (n - 1 - k) 0 := ⟨_, rfl⟩
      rw [← hcz] at hcell hst
      obtain ⟨v0, hv0⟩ : ∃ v0, wr.cell? ⟨wb.heap.size, k, none⟩ = some v0 := ⟨_, (hrow.cellAt k (by omega)).trans (List.getElem?_eq_getElem (by simp [HDL.out]; omega))⟩
      have hfr := hrow.frozenAt k
      have HS := hide hst
      have HB := hide (hbel.setCell (p := ⟨wb.heap.size, k, none⟩) (Nat.le_refl _) (.int .u8 c))
      clear hcz hrow hst hdr
      go_wp2
      go_roundw
      case rel => exact ⟨k + 1, by omega, by go_num, HS.out.1, HB.out⟩
      case measure => simp [intOf]; omega
    · obtain rfl : k = n := by omega
      have HR := hide hrow
      clear hrow
      go_wp2
      go_ret
      rw [HDL.out]
      refine ⟨some ⟨wb.heap.size, 0, none⟩, k, rfl, ⟨?_, ?_⟩, HBW.out.trans (hbel.mono (by omega))⟩
      · have := HR.out
        rw [List.take_of_length_le (by rw [HDL.out]; exact Nat.le_refl _)] at this
        refine ⟨by simp [HDL.out], ?_⟩
        rcases this.2 with q | ⟨g, cap, cur, q, b1, r⟩
        · exact .inl q
        · exact .inr ⟨g, cap, cur, q, by omega, by simpa using r⟩
      · rw [HREV.out]
        intro c hc
        exact HBD.out c (by simpa using hc)

end Go.Proofs.Qxb6604321a
