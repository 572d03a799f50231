import Derived.Test.Qxb6604754aBuildT
import Derived.Test.Qxb6604754aClone
import Derived.Test.Qxb6604754aPos
namespace Go.Proofs.Qxb6604754a
open Go.RowKit

set_option maxRecDepth 20000 in
set_option maxHeartbeats 8000000 in
theorem law3 (a b : Option Addr) (n m ca cb : Nat) (A C : List Slt) (pos : Int) (bd : Bd) (w : World) (hn : n ≤ maxLen) (hm : m ≤ maxLen) (hp1 : -9223372036854775808 ≤ pos) (hp2 : pos ≤ 9223372036854775807) (hA : SlotsAt w a n A) (hC : SlotsAt w b m C) :
    Calls Try.prog 3 #[.slice a n ca, .slice b m cb, .int .i64 pos, .int .i64 bd.size, .float .f64 bd.longest, .float .f64 bd.now, .float .f64 bd.fin] w fun e w' => e = .returned (.bool true) ∧ Gr w w' := by
  have HA := hide hA
  have HC := hide hC
  have lA := hA.len
  have lC := hC.len
  clear hA hC
  go_enter Try.func3, Try.ntmps3
  go_wp2_with fail
  refine (bytes5_any a b n m ca cb _ _ _ _ _ w hn hm).mono ?_
  rintro e w1 ⟨⟨r, rfl⟩, rfl⟩
  unfold maxLen at hn hm
  cases r with
  | false =>
    go_wp2
    go_ret
    exact ⟨rfl, Gr.refl _⟩
  | true =>
  by_cases hn4 : n ≤ 4096
  case neg =>
    go_wp2
    go_ret
    exact ⟨rfl, Gr.refl _⟩
  by_cases hm4 : m ≤ 4096
  case neg =>
    go_wp2
    go_ret
    exact ⟨rfl, Gr.refl _⟩
  by_cases hmax : pos = 9223372036854775807
  · subst hmax
    go_wp2
    go_ret
    exact ⟨rfl, Gr.refl _⟩
  have hpb : (pos == 9223372036854775807) = false := beq_eq_false_iff_ne.2 hmax
  go_wp2_with fail
  refine (indom_any a n ca A _ (by omega) HA.out).mono ?_
  rintro e w2 ⟨rfl, r, rfl, hdA⟩
  cases r with
  | false =>
    clear hdA
    go_wp2
    go_ret
    exact ⟨rfl, Gr.refl _⟩
  | true =>
  have HdA := hide (hdA rfl)
  clear hdA
  go_wp2_with fail
  refine (indom_any b m cb C _ (by omega) HC.out).mono ?_
  rintro e w3 ⟨rfl, r, rfl, hdC⟩
  cases r with
  | false =>
    clear hdC
    go_wp2
    go_ret
    exact ⟨rfl, Gr.refl _⟩
  | true =>
  have HdC := hide (hdC rfl)
  clear hdC
  obtain ⟨w0, rfl⟩ : ∃ w0, w0 = w3 := ⟨_, rfl⟩
  go_wp2_with fail
  refine (clone_any a n ca A _ (by omega) HA.out).mono ?_
  rintro e w4 ⟨hg4, a', c', rfl, hA4⟩
  have HG4 := hide hg4
  have HA4 := hide hA4
  have HC4 := hide (HC.out.gr hg4)
  clear HA HC hg4 hA4
  go_wp2_with fail
  refine (clone_any b m cb C _ (by omega) HC4.out).mono ?_
  rintro e w5 ⟨hg5, b', d', rfl, hC5⟩
  have HG5 := hide (HG4.out.trans hg5)
  have HA5 := hide (HA4.out.gr hg5)
  have HC5 := hide hC5
  clear HG4 HA4 HC4 hg5 hC5
  go_wp2_with fail
  refine (build_any a' n c' A _ hn4 HA5.out HdA.out).mono ?_
  rintro e w6 ⟨hg6, v6, dA, fA, TA, rfl, hQ6, hK6⟩
  obtain ⟨q1, q2, q3, q4, q5, rfl, y1, y2⟩ := hQ6.form
  have HG6 := hide (HG5.out.trans hg6)
  have HA6 := hide (HA5.out.gr hg6)
  have HC6 := hide (HC5.out.gr hg6)
  have HQ6 := hide hQ6
  have HKA := hide hK6
  clear HG5 HA5 HC5 hg6 hQ6 hK6 y1 y2
  rw [lA] at HQ6
  unfold qval
  go_wp2_with fail
  obtain ⟨b6, hb6⟩ : ∃ b, w6.heap.size = b := ⟨_, rfl⟩
  obtain ⟨wa, hwa⟩ : ∃ wa, w6.alloc (Obj.cells #[.slice none 0 0, .slice none 0 0, .slice q1 n q2, .slice none 0 0, .int .i64 q3, .int .i64 n, .int .i64 fA, .slice q4 TA.length q5, .slice none 0 0, .bool false, .slice none 0 0] 35) = wa := ⟨_, rfl⟩
  have hga : Gr w6 wa := by rw [← hwa]; exact Gr.alloc _ _
  have HBa := hide (show Blk wa b6 35 [.slice none 0 0, .slice none 0 0, .slice q1 n q2, .slice none 0 0, .int .i64 q3, .int .i64 n, .int .i64 fA, .slice q4 TA.length q5, .slice none 0 0, .bool false, .slice none 0 0] from by rw [← hwa, ← hb6]; exact heap_alloc_new w6 _)
  have HGa := hide (HG6.out.trans hga)
  have HAa := hide (HA6.out.gr hga)
  have HCa := hide (HC6.out.gr hga)
  have HQa := hide (HQ6.out.gr hga)
  clear HG6 HA6 HC6 HQ6 hga
  rw [hwa, hb6]
  clear hwa hb6
  refine (build_any b' m d' C _ hm4 HCa.out HdC.out).mono ?_
  rintro e w7 ⟨hg7, v7, dC, fC, TC, rfl, hQ7, hK7⟩
  obtain ⟨r1, r2, r3, r4, r5, rfl, y1, y2⟩ := hQ7.form
  have hgc := Gr.alloc w7 (Obj.cells #[.slice none 0 0, .slice none 0 0, .slice r1 m r2, .slice none 0 0, .int .i64 r3, .int .i64 m, .int .i64 fC, .slice r4 TC.length r5, .slice none 0 0, .bool false, .slice none 0 0] 35)
  have HBA := HBa.out.gr (hg7.trans hgc)
  have HGc := hide hgc
  have s0 : (w7.alloc (Obj.cells #[.slice none 0 0, .slice none 0 0, .slice r1 m r2, .slice none 0 0, .int .i64 r3, .int .i64 m, .int .i64 fC, .slice r4 TC.length r5, .slice none 0 0, .bool false, .slice none 0 0] 35)).cell? ⟨b6, 0, none⟩ = some (.slice none 0 0) := HBA.cell 0
  have s1 : (w7.alloc (Obj.cells #[.slice none 0 0, .slice none 0 0, .slice r1 m r2, .slice none 0 0, .int .i64 r3, .int .i64 m, .int .i64 fC, .slice r4 TC.length r5, .slice none 0 0, .bool false, .slice none 0 0] 35)).cell? ⟨b6, 1, none⟩ = some (.slice none 0 0) := HBA.cell 1
  have s2 : (w7.alloc (Obj.cells #[.slice none 0 0, .slice none 0 0, .slice r1 m r2, .slice none 0 0, .int .i64 r3, .int .i64 m, .int .i64 fC, .slice r4 TC.length r5, .slice none 0 0, .bool false, .slice none 0 0] 35)).cell? ⟨b6, 2, none⟩ = some (.slice q1 n q2) := HBA.cell 2
  have s3 : (w7.alloc (Obj.cells #[.slice none 0 0, .slice none 0 0, .slice r1 m r2, .slice none 0 0, .int .i64 r3, .int .i64 m, .int .i64 fC, .slice r4 TC.length r5, .slice none 0 0, .bool false, .slice none 0 0] 35)).cell? ⟨b6, 3, none⟩ = some (.slice none 0 0) := HBA.cell 3
  have s4 : (w7.alloc (Obj.cells #[.slice none 0 0, .slice none 0 0, .slice r1 m r2, .slice none 0 0, .int .i64 r3, .int .i64 m, .int .i64 fC, .slice r4 TC.length r5, .slice none 0 0, .bool false, .slice none 0 0] 35)).cell? ⟨b6, 4, none⟩ = some (.int .i64 q3) := HBA.cell 4
  have s5 : (w7.alloc (Obj.cells #[.slice none 0 0, .slice none 0 0, .slice r1 m r2, .slice none 0 0, .int .i64 r3, .int .i64 m, .int .i64 fC, .slice r4 TC.length r5, .slice none 0 0, .bool false, .slice none 0 0] 35)).cell? ⟨b6, 5, none⟩ = some (.int .i64 n) := HBA.cell 5
  have s6 : (w7.alloc (Obj.cells #[.slice none 0 0, .slice none 0 0, .slice r1 m r2, .slice none 0 0, .int .i64 r3, .int .i64 m, .int .i64 fC, .slice r4 TC.length r5, .slice none 0 0, .bool false, .slice none 0 0] 35)).cell? ⟨b6, 6, none⟩ = some (.int .i64 fA) := HBA.cell 6
  have s7 : (w7.alloc (Obj.cells #[.slice none 0 0, .slice none 0 0, .slice r1 m r2, .slice none 0 0, .int .i64 r3, .int .i64 m, .int .i64 fC, .slice r4 TC.length r5, .slice none 0 0, .bool false, .slice none 0 0] 35)).cell? ⟨b6, 7, none⟩ = some (.slice q4 TA.length q5) := HBA.cell 7
  have s8 : (w7.alloc (Obj.cells #[.slice none 0 0, .slice none 0 0, .slice r1 m r2, .slice none 0 0, .int .i64 r3, .int .i64 m, .int .i64 fC, .slice r4 TC.length r5, .slice none 0 0, .bool false, .slice none 0 0] 35)).cell? ⟨b6, 8, none⟩ = some (.slice none 0 0) := HBA.cell 8
  have s9 : (w7.alloc (Obj.cells #[.slice none 0 0, .slice none 0 0, .slice r1 m r2, .slice none 0 0, .int .i64 r3, .int .i64 m, .int .i64 fC, .slice r4 TC.length r5, .slice none 0 0, .bool false, .slice none 0 0] 35)).cell? ⟨b6, 9, none⟩ = some (.bool false) := HBA.cell 9
  have s10 : (w7.alloc (Obj.cells #[.slice none 0 0, .slice none 0 0, .slice r1 m r2, .slice none 0 0, .int .i64 r3, .int .i64 m, .int .i64 fC, .slice r4 TC.length r5, .slice none 0 0, .bool false, .slice none 0 0] 35)).cell? ⟨b6, 10, none⟩ = some (.slice none 0 0) := HBA.cell 10
  have HG7 := hide (HGa.out.trans hg7)
  have HA7 := hide (HAa.out.gr hg7)
  have HC7 := hide (HCa.out.gr hg7)
  have HQA := hide (HQa.out.gr hg7)
  have HQ7 := hide hQ7
  have HKC := hide hK7
  rw [lC] at HQ7
  clear HGa HAa HCa HQa HBa HBA hg7 hQ7 hK7 y1 y2 hgc
  unfold qval
  go_wp2_with fail
  refine (lineup_any _ _ bd A C dA fA dC fC TA TC pos _ (HQA.out.gr HGc.out) (HQ7.out.gr HGc.out) HKA.out HKC.out hp1 (by omega) (by omega) (by omega)).mono ?_
  rintro e w8 ⟨hg8', g, rfl, hX⟩
  have hg8 := HGc.out.trans hg8'
  have HX := hide hX
  have HG8 := hide (HG7.out.trans hg8)
  have HA8 := hide (HA7.out.gr hg8)
  have HC8 := hide (HC7.out.gr hg8)
  clear hX HG7 HA7 HC7 HQA HQ7 HKA HKC HGc hg8 hg8' s0 s1 s2 s3 s4 s5 s6 s7 s8 s9 s10 HdA HdC
  go_wp2
  go_loopw [18, 20] (fun rv pv wr => ∃ (p : Nat) (r : Int), p ≤ n ∧ rv = .int .i64 r ∧ pv = .int .i64 p ∧ Hid (Gr w8 wr) ∧ Hid (Scn bd (A ++ C) pos p r)) (fun _ pv _ => n - (intOf pv).toNat)
  case atStart => exact ⟨0, -1, Nat.zero_le _, rfl, rfl, Gr.refl _, Scn.start _ _ _⟩
  case round =>
  obtain ⟨p, r, hp, rfl, rfl, HG, HS⟩ := hrel
  by_cases hlt : p < n
  · rcases HS.out.sign with rfl | ⟨q, rfl, hany⟩
    · obtain ⟨x, hx⟩ : ∃ x, A[p]? = some x := ⟨_, List.getElem?_eq_getElem (by omega)⟩
      have hx' : (A ++ C)[p]? = some x := by rw [List.getElem?_append_left (by omega)]; exact hx
      obtain ⟨b1, off, rfl, d1, d2, d3⟩ := (HA8.out.gr HG.out).at' p x hx
      by_cases hgt : pos < p
      · go_wp2_with fail
        refine (admitted_any bd x _).mono ?_
        rintro e2 w2 ⟨rfl, hg2⟩
        have HG2 := hide (HG.out.trans hg2)
        cases hb : (decide (0 ≤ x.1) && ad bd x.2) with
        | true =>
          have HS' := hide (HS.out.hit hx' hgt hb (p + 1))
          clear HS HG hx hx' d1 d2 d3 hg2 hb
          go_wp2
          refine ⟨⟨p + 1, p, by omega, rfl, by go_num, HG2, HS'⟩, ?_⟩
          simp [intOf]
          omega
        | false =>
          have HS' := hide (HS.out.miss hx' hb)
          clear HS HG hx hx' d1 d2 d3 hg2 hb
          go_wp2
          refine ⟨⟨p + 1, -1, by omega, rfl, by go_num, HG2, HS'⟩, ?_⟩
          simp [intOf]
          omega
      · have HS' := hide (HS.out.low hgt)
        clear HS hx hx' d1 d2 d3
        go_wp2
        refine ⟨⟨p + 1, -1, by omega, rfl, by go_num, HG, HS'⟩, ?_⟩
        simp [intOf]
        omega
    · have HSn := hide (hany (n + 0))
      clear hany HS
      go_wp2
      go_loopw [18, 21] (fun rv pv wr => ∃ (p : Nat) (r : Int), p ≤ m ∧ rv = .int .i64 r ∧ pv = .int .i64 p ∧ Hid (Gr w8 wr) ∧ Hid (Scn bd (A ++ C) pos (n + p) r)) (fun _ pv _ => m - (intOf pv).toNat)
      case atStart => exact ⟨0, _, Nat.zero_le _, rfl, rfl, HG, HSn⟩
      case round =>
      clear HG HSn
      obtain ⟨p2, r2, hp2', rfl, rfl, HG, HS⟩ := hrel
      by_cases hlt2 : p2 < m
      · rcases HS.out.sign with rfl | ⟨q, rfl, hany⟩
        · obtain ⟨x, hx⟩ : ∃ x, C[p2]? = some x := ⟨_, List.getElem?_eq_getElem (by omega)⟩
          have hx' : (A ++ C)[n + p2]? = some x := by rw [List.getElem?_append_right (by omega), lA, Nat.add_sub_cancel_left]; exact hx
          obtain ⟨b1, off, rfl, d1, d2, d3⟩ := (HC8.out.gr HG.out).at' p2 x hx
          obtain ⟨np, hnp⟩ : ∃ np : Nat, (n : Int) + p2 = np := ⟨n + p2, by omega⟩
          by_cases hgt : pos < np
          · go_wp2_with fail
            refine (admitted_any bd x _).mono ?_
            rintro e2 w2 ⟨rfl, hg2⟩
            have HG2 := hide (HG.out.trans hg2)
            cases hb : (decide (0 ≤ x.1) && ad bd x.2) with
            | true =>
              have h0 := HS.out.hit hx' (by omega) hb (n + (p2 + 1))
              rw [show ((n + p2 : Nat) : Int) = np by omega] at h0
              have HS' := hide h0
              clear HS HG hx hx' d1 d2 d3 hg2 hb h0
              go_wp2
              refine ⟨⟨p2 + 1, np, by omega, rfl, by go_num, HG2, HS'⟩, ?_⟩
              simp [intOf]
              omega
            | false =>
              have HS' := hide (HS.out.miss hx' hb)
              clear HS HG hx hx' d1 d2 d3 hg2 hb
              go_wp2
              refine ⟨⟨p2 + 1, -1, by omega, rfl, by go_num, HG2, HS'⟩, ?_⟩
              simp [intOf]
              omega
          · have HS' := hide (HS.out.low (by omega))
            clear HS hx hx' d1 d2 d3
            go_wp2
            refine ⟨⟨p2 + 1, -1, by omega, rfl, by go_num, HG, HS'⟩, ?_⟩
            simp [intOf]
            omega
        · obtain rfl : g = q := HX.out.uniq ((hany (A ++ C).length).fin (Nat.le_refl _))
          clear hany HS
          go_wp2
          go_ret
          exact ⟨rfl, HG8.out.trans HG.out⟩
      · obtain rfl : g = r2 := HX.out.uniq (HS.out.fin (by rw [List.length_append]; omega))
        clear HS
        go_wp2
        go_ret
        exact ⟨rfl, HG8.out.trans HG.out⟩
  · obtain rfl : n = p := by omega
    have HSn := hide HS.out
    clear HS
    go_wp2
    go_loopw [18, 21] (fun rv pv wr => ∃ (p : Nat) (r : Int), p ≤ m ∧ rv = .int .i64 r ∧ pv = .int .i64 p ∧ Hid (Gr w8 wr) ∧ Hid (Scn bd (A ++ C) pos (n + p) r)) (fun _ pv _ => m - (intOf pv).toNat)
    case atStart => exact ⟨0, _, Nat.zero_le _, rfl, rfl, HG, HSn⟩
    case round =>
    clear HG HSn
    obtain ⟨p2, r2, hp2', rfl, rfl, HG, HS⟩ := hrel
    by_cases hlt2 : p2 < m
    · rcases HS.out.sign with rfl | ⟨q, rfl, hany⟩
      · obtain ⟨x, hx⟩ : ∃ x, C[p2]? = some x := ⟨_, List.getElem?_eq_getElem (by omega)⟩
        have hx' : (A ++ C)[n + p2]? = some x := by rw [List.getElem?_append_right (by omega), lA, Nat.add_sub_cancel_left]; exact hx
        obtain ⟨b1, off, rfl, d1, d2, d3⟩ := (HC8.out.gr HG.out).at' p2 x hx
        obtain ⟨np, hnp⟩ : ∃ np : Nat, (n : Int) + p2 = np := ⟨n + p2, by omega⟩
        by_cases hgt : pos < np
        · go_wp2_with fail
          refine (admitted_any bd x _).mono ?_
          rintro e2 w2 ⟨rfl, hg2⟩
          have HG2 := hide (HG.out.trans hg2)
          cases hb : (decide (0 ≤ x.1) && ad bd x.2) with
          | true =>
            have h0 := HS.out.hit hx' (by omega) hb (n + (p2 + 1))
            rw [show ((n + p2 : Nat) : Int) = np by omega] at h0
            have HS' := hide h0
            clear HS HG hx hx' d1 d2 d3 hg2 hb h0
            go_wp2
            refine ⟨⟨p2 + 1, np, by omega, rfl, by go_num, HG2, HS'⟩, ?_⟩
            simp [intOf]
            omega
          | false =>
            have HS' := hide (HS.out.miss hx' hb)
            clear HS HG hx hx' d1 d2 d3 hg2 hb
            go_wp2
            refine ⟨⟨p2 + 1, -1, by omega, rfl, by go_num, HG2, HS'⟩, ?_⟩
            simp [intOf]
            omega
        · have HS' := hide (HS.out.low (by omega))
          clear HS hx hx' d1 d2 d3
          go_wp2
          refine ⟨⟨p2 + 1, -1, by omega, rfl, by go_num, HG, HS'⟩, ?_⟩
          simp [intOf]
          omega
      · obtain rfl : g = q := HX.out.uniq ((hany (A ++ C).length).fin (Nat.le_refl _))
        clear hany HS
        go_wp2
        go_ret
        exact ⟨rfl, HG8.out.trans HG.out⟩
    · obtain rfl : g = r2 := HX.out.uniq (HS.out.fin (by rw [List.length_append]; omega))
      clear HS
      go_wp2
      go_ret
      exact ⟨rfl, HG8.out.trans HG.out⟩

end Go.Proofs.Qxb6604754a
