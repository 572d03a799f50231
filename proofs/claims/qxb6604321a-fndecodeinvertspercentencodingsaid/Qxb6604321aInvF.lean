import Derived.Test.Qxb6604321aInvPre
namespace Go.Proofs.Qxb6604321a
open Go.RowKit

theorem and15 (c : Int) (h : 0 ≤ c ∧ c ≤ 255) : bits BinOp.and IntKind.u8 c 15 = c % 16 := by
  have all : ∀ i : Fin 256, bits BinOp.and IntKind.u8 (i.val : Int) 15 = (i.val : Int) % 16 := by decide +kernel
  have := all ⟨c.toNat, by omega⟩
  simp only at this
  rw [Int.toNat_of_nonneg h.1] at this
  exact this
theorem dig_get_false (j : Nat) (h : j < 16) : ∃ x : Int, (↑(({ data := #[48, 49, 50, 51, 52, 53, 54, 55, 56, 57, 97, 98, 99, 100, 101, 102] } : ByteArray)[j]'h).toNat : Int) = x ∧ x = (digT false).getD j 0 := by
  refine ⟨_, rfl, ?_⟩
  have all : ∀ i : Fin 16, (↑(({ data := #[48, 49, 50, 51, 52, 53, 54, 55, 56, 57, 97, 98, 99, 100, 101, 102] } : ByteArray)[i.val]'i.isLt).toNat : Int) = (digT false).getD i.val 0 := by decide
  exact all ⟨j, h⟩
theorem dig_get_true (j : Nat) (h : j < 16) : ∃ x : Int, (↑(({ data := #[48, 49, 50, 51, 52, 53, 54, 55, 56, 57, 65, 66, 67, 68, 69, 70] } : ByteArray)[j]'h).toNat : Int) = x ∧ x = (digT true).getD j 0 := by
  refine ⟨_, rfl, ?_⟩
  have all : ∀ i : Fin 16, (↑(({ data := #[48, 49, 50, 51, 52, 53, 54, 55, 56, 57, 65, 66, 67, 68, 69, 70] } : ByteArray)[i.val]'i.isLt).toNat : Int) = (digT true).getD i.val 0 := by decide
  exact all ⟨j, h⟩
theorem own_below {w w' : World} {base n : Nat} {v : Value} {xs : List Value} (h : w.ownsRow base 5 1 v n xs) (hb : Below w.heap.size w w') : w'.ownsRow base 5 1 v n xs := by
  refine ⟨h.1, ?_⟩
  rcases h.2 with hn | ⟨g, cap, cur, hv, hg, hh, r⟩
  · exact .inl hn
  · exact .inr ⟨g, cap, cur, hv, hg, by rw [hb.block g (Array.getElem?_eq_some_iff.1 hh).1]; exact hh, r⟩
theorem own_at {w : World} {base n c : Nat} {a : Option Addr} {xs : List Value} (h : w.ownsRow base 5 1 (.slice a n c) n xs) : ∀ x, a = some x → base ≤ x.block ∧ x.block < w.heap.size := by
  rintro x rfl
  exact h.lt _ rfl

set_option maxRecDepth 10000 in
set_option maxHeartbeats 2000000 in
theorem inv_false (a b : Option Addr) (la ca lb cb : Nat) (za zb : List Int) (s0 s1 s2 s3 s4 s5 s6 s7 : ByteArray) (all plus : Bool) (w : World) (Ha : InRow w a la ca za) (Hb : InRow w b lb cb zb) :
    Calls Try.prog 4 #[.slice a la ca, .agg #[.string s0, .string s1, .string s2, .string s3, .string s4, .string s5, .string s6, .string s7], .slice b lb cb, .bool all, .bool false, .bool plus] w fun e w' => e = .returned (.bool true) ∧ Below w.heap.size w w' := by
  obtain ⟨i0, hi, hz0, hz1, hz2⟩ := info_parts Try.info5
  have HA := hide Ha
  have HB := hide Hb
  clear Ha Hb
  go_enter Try.func4, Try.ntmps4
  go_wp2_with fail
  refine (bytes17 _ _ _ _ _ _ _ _ _ _ _ _ _ _ _ _ _ _).mono ?_
  rintro e w1 ⟨⟨r, rfl, hr⟩, hbel⟩
  have HK := hide ((kbox_first w s0 s1 s2 s3 s4 s5 s6 s7).below hbel)
  have hb1 : Below w.heap.size w w1 := ((Below.refl _ _).alloc (Nat.le_refl _) _).trans (hbel.mono (by simp))
  clear hbel
  cases r with
  | false =>
    clear hr
    go_wp2
    go_ret
    exact ⟨rfl, hb1⟩
  | true =>
  obtain ⟨hla, hlb⟩ := hr rfl
  clear hr
  obtain ⟨hN, k0, k1, k2, k3, k4, k5, k6, k7⟩ := HK.out
  go_wp2_with fail
  refine (over_any la lb hla hlb _ _ _ _ _ _ _ _ _).mono ?_
  rintro e w2 ⟨⟨r, rfl, -⟩, hbel⟩
  have HK2 := hide (HK.out.below hbel)
  have hb2 : Below w.heap.size w w2 := hb1.trans (hbel.mono (by omega))
  clear k0 k1 k2 k3 k4 k5 k6 k7 HK hbel hN
  cases r with
  | true =>
    go_wp2
    go_ret
    exact ⟨rfl, hb2⟩
  | false =>
  go_wp2_with fail
  refine (clone_any a la ca za w2 hla (HA.out.below hb2)).mono ?_
  rintro e w3 ⟨a', ca', rfl, hown, hbel⟩
  have HK3 := hide (HK2.out.below hbel)
  have hs2 := hb2.size
  have hb3 : Below w.heap.size w w3 := hb2.trans (hbel.mono (by omega))
  have hs3 := hbel.size
  have HO := hide hown
  clear hown hbel HK2
  go_wp2_with fail
  refine (clone_any b lb cb zb w3 hlb (HB.out.below hb3)).mono ?_
  rintro e w4 ⟨b', cb', rfl, hown, hbel⟩
  have HK4 := hide (HK3.out.below hbel)
  have hb4 : Below w.heap.size w w4 := hb3.trans (hbel.mono (by omega))
  have hs4 := hbel.size
  have HOB := hide hown
  have HOA := hide (show w4.ownsRow w2.heap.size 5 1 (.slice a' la ca') la (za.map (Value.int .u8)) from own_below HO.out.1 hbel)
  have HZA := hide HO.out.2
  have HR := hide (show ∀ x, b' = some x → w3.heap.size ≤ x.block ∧ x.block < w4.heap.size from own_at hown.1)
  have HRA := hide (show ∀ x, a' = some x → w2.heap.size ≤ x.block ∧ x.block < w3.heap.size from own_at HO.out.1)
  clear hown hbel HK3 HO
  have hzl := HOB.out.length
  go_wp2_with (at_make; refine wpList_make_own _ rfl _ _ 22 rfl w4.heap.size 5 i0 (.int .u8 0) 1 Try.underlying22 hi hz0 hz1 .i64 .i64 (3 * lb) (3 * lb) rfl rfl (by omega) (by rw [hz2]; omega) (by unfold maxLen; omega) (Nat.le_refl _) ?_; intro w5 hown hgr)
  have HE := hide (show ERel w4 w5 w4.heap.size (3 * lb) [] from ⟨hown, (Below.refl _ _).grown hgr (Nat.le_refl _) (by simp), by have := hown.lt _ rfl; omega⟩)
  clear hown hgr
  go_loopw [14, 15] (fun v i wr => ∃ k : Nat, k ≤ lb ∧ i = .int .i64 k ∧ v = .slice (some ⟨w4.heap.size, 0, none⟩) (encL all false (zb.take k)).length (3 * lb) ∧ ERel w4 wr w4.heap.size (3 * lb) (encL all false (zb.take k))) (fun _ i _ => lb - (intOf i).toNat)
  case atStart => exact ⟨0, Nat.zero_le _, rfl, rfl, HE.out⟩
  case round =>
  obtain ⟨k, hk, rfl, rfl, her⟩ := hrel
  clear HE
  obtain ⟨out, hout⟩ : ∃ out, out = encL all false (zb.take k) := ⟨_, rfl⟩
  rw [← hout] at her
  have hol : out.length ≤ 3 * k := by
    have := encL_len all false (zb.take k)
    rw [← hout] at this
    have h2 : (zb.take k).length ≤ k := List.length_take_le _ _
    omega
  have hlen : (encL all false (zb.take k)).length = out.length := by rw [hout]
  obtain ⟨n, hn⟩ : ∃ n, out.length = n := ⟨_, rfl⟩
  rw [hn] at hlen hol
  rw [hlen]
  clear hlen
  have HOUT := hide hout
  have HN := hide hn
  have HER := hide her
  have hrow := her.1
  have hsz := her.2.2
  rw [hn] at hrow
  clear hout hn her
  by_cases hlt : k < lb
  · obtain ⟨-, -, -, hbd, ⟨rfl, h0⟩ | ⟨bb, ob, hb', hcells⟩⟩ := HOB.out.bytes
    · have := HOB.out.bytes.2.1; omega
    subst hb'
    have hblt := (HR.out _ rfl).2
    have hcell : wr.cell? ⟨bb, ob + k, none⟩ = some (.int .u8 (zb.getD k 0)) := (HER.out.2.1.cell (by exact hblt)).trans (hcells k hlt)
    have hcb := hbd (zb.getD k 0) (by simp only [List.getD_eq_getElem?_getD, List.getElem?_eq_getElem (show k < zb.length by omega), Option.getD_some]; exact List.getElem_mem _)
    have hsn : encL all false (zb.take (k + 1)) = out ++ encB all false (zb.getD k 0) := by
      rw [List.take_succ_eq_append_getElem (by omega), encL_snoc, HOUT.out]
      simp [hzl, hlt]
    obtain ⟨c, hc⟩ : ∃ c, c = zb.getD k 0 := ⟨_, rfl⟩
    rw [← hc] at hcell hcb hsn
    have HSN := hide hsn
    obtain ⟨hc0, hc1⟩ := hcb
    clear hcells hbd hc hsn
    by_cases hesc : all = true ∨ c = 37 ∨ c = 43
    · have HB3 := hide (show encB all false c = [37, (digT false).getD (c / 16).toNat 0, (digT false).getD (c % 16).toNat 0] by unfold encB; rw [if_pos hesc])
      obtain ⟨q1, hq1⟩ : ∃ q1 : Int, c / 16 = q1 := ⟨_, rfl⟩
      obtain ⟨q2, hq2⟩ : ∃ q2 : Int, bits BinOp.and IntKind.u8 c 15 = q2 := ⟨_, rfl⟩
      have hq2' := hq2.symm.trans (and15 c ⟨hc0, hc1⟩)
      have g1 : 0 ≤ c / 16 ∧ c / 16 < 16 := by omega
      have g2 : 0 ≤ q2 ∧ q2 < 16 := by omega
      rw [hq1] at g1
      have HQ2 := hide hq2'
      clear hq2'
      obtain ⟨g10, g11⟩ := g1
      obtain ⟨g20, g21⟩ := g2
      obtain ⟨d1, hd1, hd1'⟩ := dig_get_false q1.toNat (by omega)
      obtain ⟨d2, hd2, hd2'⟩ := dig_get_false q2.toNat (by omega)
      rw [hq1, ← HQ2.out, ← hd1', ← hd2'] at HB3
      clear hd1' hd2'
      have HL2 := hide (show (encL all false (zb.take (k + 1))).length = n + 3 by rw [HSN.out, HB3.out, ← HN.out]; simp)
      rcases (show all = true ∨ (all = false ∧ c = 37) ∨ (all = false ∧ c = 43) by cases all <;> simp at hesc ⊢; exact hesc) with rfl | ⟨rfl, h⟩ | ⟨rfl, h⟩
      case' inr.inl => have ht : (c == 37) = true := by simp [h]
      case' inr.inr => (have ht : (c == 37) = false := by simp [h]); have ht2 : (c == 43) = true := by simp [h]
      case' inr.inl | inr.inr => clear h
      all_goals
        clear hesc
        go_wp2
        go_region_law (refine step_append_fits rfl (.tmp 61) (.tmp 70) 22 rfl w4.heap.size 5 i0 1 Try.underlying22 hi hz1 w4.heap.size n (3 * lb) (out.map (Value.int .u8)) rfl (hrow.alloc _).drew ⟨wr.heap.size, 0, none⟩ 3 3 [.int .u8 37, .int .u8 d1, .int .u8 d2] rfl rfl (fun j u h => cell_three_new wr _ _ _ 5 j u h) (by simp [Value.oneCell']) (by omega) ?_; intro w6 hown6 hgr6)
      all_goals
        obtain rfl := HN.out
        have HP := hide (HER.out.push [37, d1, d2] rfl hown6 ⟨hgr6.os, hgr6.tape, hgr6.output, hgr6.size, hgr6.block⟩)
        clear hown6 hgr6
        rw [← HB3.out, ← HSN.out] at HP
        go_wp2
        go_roundw
        case rel => exact ⟨k + 1, by omega, by go_num, by rw [HL2.out], HP.out⟩
        case measure => simp [intOf]; omega
    · have HB1 := hide (show encB all false c = [c] by unfold encB; rw [if_neg hesc])
      have ht : (c == 37) = false := by simpa using fun e => hesc (.inr (.inl e))
      have ht2 : (c == 43) = false := by simpa using fun e => hesc (.inr (.inr e))
      obtain rfl : all = false := by cases all <;> simp at hesc ⊢
      clear hesc
      have HL2 := hide (show (encL false false (zb.take (k + 1))).length = n + 1 by rw [HSN.out, HB1.out, ← HN.out]; simp)
      go_wp2_with (at_builtin; refine wpList_append_fits _ rfl (.tmp 72) (.tmp 74) 22 rfl w4.heap.size 5 i0 1 Try.underlying22 hi hz1 w4.heap.size n (3 * lb) (out.map (Value.int .u8)) rfl (hrow.alloc _) ⟨wr.heap.size, 0, none⟩ 1 1 [.int .u8 c] rfl rfl (cell_one_new _ _ _) (by simp [Value.oneCell']) (by omega) ?_; intro w6 hown6 hgr6)
      obtain rfl := HN.out
      have HP := hide (HER.out.push [c] rfl hown6 hgr6)
      rw [← HB1.out, ← HSN.out] at HP
      go_roundw
      case rel => exact ⟨k + 1, by omega, by go_num, by rw [HL2.out], HP.out⟩
      case measure => simp [intOf]; omega
  · obtain rfl : k = lb := by omega
    have htake : zb.take k = zb := List.take_of_length_le (by omega)
    rw [htake] at HOUT
    have hkb := HK4.out.below (HER.out.2.1)
    have HKB := hide hkb
    obtain ⟨hN, k0, k1, k2, k3, k4, k5, k6, k7⟩ := hkb
    clear hrow htake
    go_wp2_with fail
    refine (new_any a' la ca' _ _ _ _ _ _ _ _ _).mono ?_
    rintro e w6 ⟨rfl, hU, hbel6, hs6⟩
    clear k0 k1 k2 k3 k4 k5 k6 k7 hN HKB
    have hb46 : Below w4.heap.size w4 w6 := HER.out.2.1.trans (hbel6.mono (by omega))
    have HOA6 := hide (own_below HOA.out hb46)
    have hE6 := own_below HER.out.1 hbel6
    obtain ⟨str, hstr⟩ : ∃ str, strOfNums out = str := ⟨_, rfl⟩
    have hconv := run_convert_bytes_arg (P := Try.prog) w6 22 5 Try.underlying22 Try.underlying5 w4.heap.size 0 out.length (3 * k) out rfl (fun j hj => by
      rw [Nat.zero_add, hE6.cellAt j (by omega)]; simp [hj]) 9 Try.underlying9
    rw [hstr, HN.out] at hconv
    have hdec : dec plus (bytesOf str) = (zb, true) := by
      have hzb := HOB.out.2
      rw [← hstr, HOUT.out, bytesOf_nums _ (encL_bd all false zb hzb)]
      exact dec_encL plus all false zb hzb
    have hssz : str.size ≤ 4194304 := by rw [← hstr, strOfNums_size, HN.out]; omega
    have hdc := zzdecode_any (wr.heap.size + 1) w2.heap.size la ca' a' za (keptV s0 s1 s2 s3 s4 s5 s6 s7) str plus w6 hU ⟨HOA6.out, HZA.out⟩ (by omega) hssz
    rw [hdec] at hdc
    have HDC := hide hdc
    clear hdc hdec hssz hstr hE6 hU
    go_wp2_with fail
    refine HDC.out.mono ?_
    rintro e w7 ⟨rfl, a2, c2, hd⟩
    have HD := hide hd
    clear hd hconv HDC
    have hst := HD.out.stays
    have hU7 := HD.out.blk
    have hB1 := HD.out.own.bytes
    have hB2 : Bytes w7 b' k cb' zb := HOB.out.bytes.same (fun x hx o => by
      obtain ⟨q1, q2⟩ := HR.out x hx
      have e1 : w7.heap[x.block]? = w6.heap[x.block]? := hst.block x.block (by omega) (by omega) (by
        cases ha : a' with
        | none => simp [rowOf]
        | some y => have := (HRA.out y ha).2; simp [rowOf]; omega)
      exact World.cell?_of_block (w := w4) (e1.trans (hb46.block _ q2)))
    have hfin : Below w.heap.size w w7 := by
      have hq : Below w.heap.size w w6 := hb4.trans (hb46.mono (by omega))
      refine ⟨hst.os.trans hq.os, hst.tape.trans hq.tape, hst.output.trans hq.output, Nat.le_trans hq.size hst.size, fun j hj => ?_⟩
      rw [← hq.block j hj]
      exact hst.block j (by have := hq.size; omega) (by omega) (by
        cases ha : a' with
        | none => simp [rowOf]
        | some y => have := (HRA.out y ha).1; simp [rowOf]; omega)
    rw [hzl] at hU7 hB1
    have HB7 := hide hU7
    have HS1 := hide hB1
    have HS2 := hide hB2
    have HFIN := hide hfin
    clear hst hU7 hB1 hB2 hfin hb46
    go_wp2_with (first
      | (go_at_call 14; refine (buf_any _ _ _ _ _ _ HB7.out).mono ?_; rintro e w8 ⟨rfl, rfl⟩)
      | (go_at_call 13; refine (same_any _ _ _ _ _ zb _ HS1.out HS2.out).mono ?_; rintro e w8 ⟨rfl, nn, rfl⟩))
    go_ret
    exact ⟨rfl, below_drewN HFIN.out _⟩

end Go.Proofs.Qxb6604321a
