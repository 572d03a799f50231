import Derived.Test.Qxb6604754aBuildT
import Derived.Test.Qxb6604754aClone
import Derived.Test.Qxb6604754aPos
namespace Go.Proofs.Qxb6604754a
open Go.RowKit

set_option maxRecDepth 20000 in
set_option maxHeartbeats 8000000 in
theorem law4 (a b : Option Addr) (n m ca cb : Nat) (A C : List Slt) (bd : Bd) (w : World) (hn : n ≤ maxLen) (hm : m ≤ maxLen) (hA : SlotsAt w a n A) (hC : SlotsAt w b m C) :
    Calls Try.prog 4 #[.slice a n ca, .slice b m cb, .int .i64 bd.size, .float .f64 bd.longest, .float .f64 bd.now, .float .f64 bd.fin] w fun e w' => e = .returned (.bool true) ∧ Gr w w' := by
  have HA := hide hA
  have HC := hide hC
  have lA := hA.len
  have lC := hC.len
  clear hA hC
  go_enter Try.func4, Try.ntmps4
  go_wp2_with fail
  refine (bytes11_any a b n m ca cb _ _ _ _ w hn hm).mono ?_
  rintro e w1 ⟨⟨r, rfl⟩, rfl⟩
  unfold maxLen at hn hm
  cases r with
  | false =>
    go_wp2
    go_ret
    exact ⟨rfl, Gr.refl _⟩
  | true =>
  by_cases hn4 : n ≤ 4096
  case neg =>
    go_wp2
    go_ret
    exact ⟨rfl, Gr.refl _⟩
  by_cases hm4 : m ≤ 4096
  case neg =>
    go_wp2
    go_ret
    exact ⟨rfl, Gr.refl _⟩
  go_wp2_with fail
  refine (indom_any a n ca A _ (by omega) HA.out).mono ?_
  rintro e w2 ⟨rfl, r, rfl, hdA⟩
  cases r with
  | false =>
    clear hdA
    go_wp2
    go_ret
    exact ⟨rfl, Gr.refl _⟩
  | true =>
  have HdA := hide (hdA rfl)
  clear hdA
  go_wp2_with fail
  refine (indom_any b m cb C _ (by omega) HC.out).mono ?_
  rintro e w3 ⟨rfl, r, rfl, hdC⟩
  cases r with
  | false =>
    clear hdC
    go_wp2
    go_ret
    exact ⟨rfl, Gr.refl _⟩
  | true =>
  have HdC := hide (hdC rfl)
  clear hdC
  obtain ⟨w0, rfl⟩ : ∃ w0, w0 = w3 := ⟨_, rfl⟩
  go_wp2_with fail
  refine (clone_any a n ca A _ (by omega) HA.out).mono ?_
  rintro e w4 ⟨hg4, a', c', rfl, hA4⟩
  have HG4 := hide hg4
  have HA4 := hide hA4
  have HC4 := hide (HC.out.gr hg4)
  clear HA HC hg4 hA4
  go_wp2_with fail
  refine (clone_any b m cb C _ (by omega) HC4.out).mono ?_
  rintro e w5 ⟨hg5, b', d', rfl, hC5⟩
  have HG5 := hide (HG4.out.trans hg5)
  have HA5 := hide (HA4.out.gr hg5)
  have HC5 := hide hC5
  clear HG4 HA4 HC4 hg5 hC5
  go_wp2_with fail
  refine (build_any a' n c' A _ hn4 HA5.out HdA.out).mono ?_
  rintro e w6 ⟨hg6, v6, dA, fA, TA, rfl, hQ6, hK6⟩
  obtain ⟨q1, q2, q3, q4, q5, rfl, y1, y2⟩ := hQ6.form
  have HG6 := hide (HG5.out.trans hg6)
  have HA6 := hide (HA5.out.gr hg6)
  have HC6 := hide (HC5.out.gr hg6)
  have HQ6 := hide hQ6
  have HKA := hide hK6
  clear HG5 HA5 HC5 hg6 hQ6 hK6 y1 y2
  rw [lA] at HQ6
  unfold qval
  go_wp2_with fail
  obtain ⟨b6, hb6⟩ : ∃ b, w6.heap.size = b := ⟨_, rfl⟩
  obtain ⟨wa, hwa⟩ : ∃ wa, w6.alloc (Obj.cells #[.slice none 0 0, .slice none 0 0, .slice q1 n q2, .slice none 0 0, .int .i64 q3, .int .i64 n, .int .i64 fA, .slice q4 TA.length q5, .slice none 0 0, .bool false, .slice none 0 0] 35) = wa := ⟨_, rfl⟩
  have hga : Gr w6 wa := by rw [← hwa]; exact Gr.alloc _ _
  have HBa := hide (show Blk wa b6 35 [.slice none 0 0, .slice none 0 0, .slice q1 n q2, .slice none 0 0, .int .i64 q3, .int .i64 n, .int .i64 fA, .slice q4 TA.length q5, .slice none 0 0, .bool false, .slice none 0 0] from by rw [← hwa, ← hb6]; exact heap_alloc_new w6 _)
  have HGa := hide (HG6.out.trans hga)
  have HAa := hide (HA6.out.gr hga)
  have HCa := hide (HC6.out.gr hga)
  have HQa := hide (HQ6.out.gr hga)
  clear HG6 HA6 HC6 HQ6 hga
  rw [hwa, hb6]
  clear hwa hb6
  refine (build_any b' m d' C _ hm4 HCa.out HdC.out).mono ?_
  rintro e w7 ⟨hg7, v7, dC, fC, TC, rfl, hQ7, hK7⟩
  obtain ⟨r1, r2, r3, r4, r5, rfl, y1, y2⟩ := hQ7.form
  have HG7 := hide (HGa.out.trans hg7)
  have HA7 := hide (HAa.out.gr hg7)
  have HC7 := hide (HCa.out.gr hg7)
  have HQA := hide (HQa.out.gr hg7)
  have HBA := hide (HBa.out.gr hg7)
  have HQ7 := hide hQ7
  have HKC := hide hK7
  rw [lC] at HQ7
  clear HGa HAa HCa HQa HBa hg7 hQ7 hK7 y1 y2
  unfold qval
  go_wp2_with fail
  obtain ⟨b7, hb7⟩ : ∃ b, w7.heap.size = b := ⟨_, rfl⟩
  obtain ⟨wc, hwc⟩ : ∃ wc, w7.alloc (Obj.cells #[.slice none 0 0, .slice none 0 0, .slice r1 m r2, .slice none 0 0, .int .i64 r3, .int .i64 m, .int .i64 fC, .slice r4 TC.length r5, .slice none 0 0, .bool false, .slice none 0 0] 35) = wc := ⟨_, rfl⟩
  have hgc : Gr w7 wc := by rw [← hwc]; exact Gr.alloc _ _
  have HBC := hide (show Blk wc b7 35 [.slice none 0 0, .slice none 0 0, .slice r1 m r2, .slice none 0 0, .int .i64 r3, .int .i64 m, .int .i64 fC, .slice r4 TC.length r5, .slice none 0 0, .bool false, .slice none 0 0] from by rw [← hwc, ← hb7]; exact heap_alloc_new w7 _)
  rw [hwc, hb7]
  clear hwc hb7
  refine (positions_any a' b' n m c' d' A C bd wc hn4 hm4 (HA7.out.gr hgc) (HC7.out.gr hgc)).mono ?_
  rintro e w8 ⟨hg8', x1, x2, kL, L, rfl, hI, hL⟩
  have hg8 := hgc.trans hg8'
  have lL := hI.len
  have lL2 := hL.len
  rw [List.length_append, lA, lC] at lL2
  have HI := hide hI
  have HL := hide hL
  have HG8 := hide (HG7.out.trans hg8)
  have HQA8 := hide (HQA.out.gr hg8)
  have HQC8 := hide (HQ7.out.gr hg8)
  have HBA8 := hide (HBA.out.gr hg8)
  have HBC8 := hide (HBC.out.gr hg8')
  clear hI hL HG7 HA7 HC7 HQA HQ7 HBA HBC hgc hg8 hg8' HdA HdC
  go_wp2
  go_loopw [16, 17] (fun pv kv wr => ∃ k : Nat, k ≤ kL ∧ pv = .int .i64 (prev L k) ∧ kv = .int .i64 k ∧ Hid (Gr w8 wr)) (fun _ kv _ => kL + 1 - (intOf kv).toNat)
  case atStart => exact ⟨0, Nat.zero_le _, rfl, rfl, Gr.refl _⟩
  case round =>
  obtain ⟨k, hk, rfl, rfl, HG⟩ := hrel
  have hb := HL.out.bound (k := k) (by omega)
  rw [List.length_append, lA, lC] at hb
  obtain ⟨P, hP⟩ : ∃ P, prev L k = P := ⟨_, rfl⟩
  rw [hP] at hb ⊢
  obtain ⟨hb1, hb2⟩ := hb
  have HP := hide hP
  clear hP
  have HBA := HBA8.out.gr HG.out
  have HBC := HBC8.out.gr HG.out
  have s0 : wr.cell? ⟨b6, 0, none⟩ = some (.slice none 0 0) := HBA.cell 0
  have s1 : wr.cell? ⟨b6, 1, none⟩ = some (.slice none 0 0) := HBA.cell 1
  have s2 : wr.cell? ⟨b6, 2, none⟩ = some (.slice q1 n q2) := HBA.cell 2
  have s3 : wr.cell? ⟨b6, 3, none⟩ = some (.slice none 0 0) := HBA.cell 3
  have s4 : wr.cell? ⟨b6, 4, none⟩ = some (.int .i64 q3) := HBA.cell 4
  have s5 : wr.cell? ⟨b6, 5, none⟩ = some (.int .i64 n) := HBA.cell 5
  have s6 : wr.cell? ⟨b6, 6, none⟩ = some (.int .i64 fA) := HBA.cell 6
  have s7 : wr.cell? ⟨b6, 7, none⟩ = some (.slice q4 TA.length q5) := HBA.cell 7
  have s8 : wr.cell? ⟨b6, 8, none⟩ = some (.slice none 0 0) := HBA.cell 8
  have s9 : wr.cell? ⟨b6, 9, none⟩ = some (.bool false) := HBA.cell 9
  have s10 : wr.cell? ⟨b6, 10, none⟩ = some (.slice none 0 0) := HBA.cell 10
  have t0 : wr.cell? ⟨b7, 0, none⟩ = some (.slice none 0 0) := HBC.cell 0
  have t1 : wr.cell? ⟨b7, 1, none⟩ = some (.slice none 0 0) := HBC.cell 1
  have t2 : wr.cell? ⟨b7, 2, none⟩ = some (.slice r1 m r2) := HBC.cell 2
  have t3 : wr.cell? ⟨b7, 3, none⟩ = some (.slice none 0 0) := HBC.cell 3
  have t4 : wr.cell? ⟨b7, 4, none⟩ = some (.int .i64 r3) := HBC.cell 4
  have t5 : wr.cell? ⟨b7, 5, none⟩ = some (.int .i64 m) := HBC.cell 5
  have t6 : wr.cell? ⟨b7, 6, none⟩ = some (.int .i64 fC) := HBC.cell 6
  have t7 : wr.cell? ⟨b7, 7, none⟩ = some (.slice r4 TC.length r5) := HBC.cell 7
  have t8 : wr.cell? ⟨b7, 8, none⟩ = some (.slice none 0 0) := HBC.cell 8
  have t9 : wr.cell? ⟨b7, 9, none⟩ = some (.bool false) := HBC.cell 9
  have t10 : wr.cell? ⟨b7, 10, none⟩ = some (.slice none 0 0) := HBC.cell 10
  clear HBA HBC
  go_wp2_with fail
  refine (lineup_any _ _ bd A C dA fA dC fC TA TC P _ (HQA8.out.gr HG.out) (HQC8.out.gr HG.out) HKA.out HKC.out (by omega) (by omega) (by omega) (by omega)).mono ?_
  rintro e w9 ⟨hg9, g, rfl, hX⟩
  have HG9 := hide (HG.out.trans hg9)
  clear s0 s1 s2 s3 s4 s5 s6 s7 s8 s9 s10 t0 t1 t2 t3 t4 t5 t6 t7 t8 t9 t10 HG hg9
  by_cases hlt : k < kL
  · obtain ⟨v, hv⟩ : ∃ v, L[k]? = some v := ⟨_, List.getElem?_eq_getElem (by omega)⟩
    have hN := HL.out.next hv
    rw [HP.out] at hN
    obtain rfl : g = v := hX.uniq hN
    obtain ⟨b1, o1, rfl, d1⟩ := (HI.out.gr HG9.out).at' k v hv
    have hpv := hide (prev_at hv)
    have hke : ((k : Int) == kL) = false := beq_eq_false_iff_ne.2 (by omega)
    clear hX hN hv
    go_wp2
    refine ⟨⟨k + 1, by omega, by rw [hpv.out], by go_num, HG9⟩, ?_⟩
    simp [intOf]
    omega
  · obtain rfl : kL = k := by omega
    have hN := HL.out.last
    rw [lL, HP.out] at hN
    obtain rfl : g = -1 := hX.uniq hN
    clear hX hN
    go_wp2
    go_ret
    exact ⟨rfl, HG8.out.trans HG9.out⟩

end Go.Proofs.Qxb6604754a
