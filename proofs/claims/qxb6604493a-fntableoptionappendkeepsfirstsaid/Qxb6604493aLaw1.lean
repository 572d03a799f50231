import Derived.Test.Qxb6604493aFind
namespace Go.Proofs.Qxb6604493a
open Go.RowKit

theorem drop_opt (os : List (ByteArray × ByteArray)) (j : Nat) (p : ByteArray × ByteArray) (h : os[j]? = some p) : os.drop j = p :: os.drop (j + 1) := by
  obtain ⟨hj, e⟩ := List.getElem?_eq_some_iff.1 h
  rw [List.drop_eq_getElem_cons hj, e]

set_option maxRecDepth 10000 in
set_option maxHeartbeats 1000000 in
theorem law1 (a : Option Addr) (n c : Nat) (q : ByteArray) (os : List (ByteArray × ByteArray)) (w : World) (hm : n ≤ 9223372036854775807) (h : Opts w a n os) :
    Calls Try.prog 3 #[.slice a n c, .string q] w fun e w' => e = .returned (.bool true) ∧ Below w.heap.size w w' := by
  have c5 := hide (bytes5 a n c os q w hm h)
  have HC := hide h
  clear h
  by_cases hn : n ≤ 65536
  · by_cases hq : q.size ≤ 1048576
    · have c6 := hide (obytes_any a n c os w hn HC.out)
      go_enter Try.func3, Try.ntmps3
      go_wp2_with fail
      refine c5.out.mono ?_
      rintro e w1 ⟨⟨r, rfl⟩, rfl⟩
      cases r with
      | false =>
        go_wp2
        go_ret
        exact ⟨rfl, Below.refl _ _⟩
      | true =>
      go_wp2_with fail
      refine c6.out.mono ?_
      rintro e w1 ⟨⟨t, rfl, ht0, ht1⟩, nq, rfl⟩
      clear c5 c6
      by_cases hsum : t + q.size ≤ 1048576
      · go_wp2_with fail
        refine (to_any a n c os _ hn (HC.out.drewN nq)).mono ?_
        rintro e w2 ⟨rfl, hrow⟩
        have HR := hide hrow
        have hb2 : Below w.heap.size w w2 := Below.trans (b := w.drewN nq) ⟨rfl, rfl, rfl, Nat.le_refl _, fun _ _ => rfl⟩ hrow.1
        have HO := hide (hrow.opts HC.out.1)
        have hs2 : w.heap.size < w2.heap.size := hrow.2.1
        clear hrow
        go_wp2
        go_loopw [6, 7, 8] (fun want found i wr => ∃ k : Nat, k ≤ n ∧ i = .int .i64 ((k : Int) - 1) ∧ want = .string (find q (os.drop k)).1 ∧ found = .bool (find q (os.drop k)).2 ∧ Below w.heap.size w wr ∧ wr.cell? ⟨w2.heap.size, 3, none⟩ = some (.slice (some ⟨w.heap.size, 0, none⟩) n n) ∧ Opts wr (some ⟨w.heap.size, 0, none⟩) n os) (fun _ _ i _ => (intOf i + 1).toNat)
        case atStart =>
          have e0 : os.drop n = [] := List.drop_of_length_le (by have := HC.out.1; omega)
          exact ⟨n, Nat.le_refl _, rfl, by rw [e0]; rfl, by rw [e0]; rfl, hb2.alloc (by omega) _, by simp, HO.out.below ((Below.refl _ _).alloc (Nat.le_refl _) _)⟩
        case round =>
        obtain ⟨k, hk, rfl, rfl, rfl, hbel, hT, hopt⟩ := hrel
        obtain ⟨fv, hfv⟩ : ∃ fv, (find q (os.drop k)).1 = fv := ⟨_, rfl⟩
        obtain ⟨fb, hfb⟩ : ∃ fb, (find q (os.drop k)).2 = fb := ⟨_, rfl⟩
        rw [hfv, hfb]
        have HV := hide hfv
        have HB := hide hfb
        have HOP := hide hopt
        clear hfv hfb hopt
        by_cases hk0 : 0 < k
        · obtain ⟨j, rfl⟩ : ∃ j, k = j + 1 := ⟨k - 1, by omega⟩
          obtain ⟨b, off, p1, p2, rfl, hp, hn0, hv0⟩ := HC.out.2 j (by omega)
          have hb : b < w.heap.size := World.block_lt_of_cell? w _ hn0
          have hn1 : wr.cell? ⟨b, off + j * 2, none⟩ = some (.string p1) := (hbel.cell (by exact hb)).trans hn0
          have hv1 : wr.cell? ⟨b, off + j * 2 + 1, none⟩ = some (.string p2) := (hbel.cell (by exact hb)).trans hv0
          have hd := drop_opt os j _ hp
          clear hn0 hv0 hp
          cases hmm : (p1.toList == q.toList) with
          | true =>
            have F := hide (show find q (os.drop j) = (p2, true) by rw [hd]; exact find_hit q _ _ hmm)
            clear hd
            go_wp2
            go_roundw
            case rel => exact ⟨j, by omega, by go_num, by rw [F.out], by rw [F.out], hbel, hT, HOP.out⟩
            case measure => simp [intOf]
          | false =>
            have F := hide (show find q (os.drop j) = find q (os.drop (j + 1)) by rw [hd]; exact find_miss q _ _ hmm)
            clear hd
            go_wp2
            go_roundw
            case rel => exact ⟨j, by omega, by go_num, by rw [F.out, HV.out], by rw [F.out, HB.out], hbel, hT, HOP.out⟩
            case measure => simp [intOf]
        · obtain rfl : k = 0 := by omega
          rw [List.drop_zero] at HV HB
          have hop := option_any w2.heap.size n n (some ⟨w.heap.size, 0, none⟩) q os wr (by omega) hT HOP.out
          rw [HV.out, HB.out] at hop
          have HOPT := hide hop
          have hsr := hbel.size
          clear hop hT
          go_wp2_with (go_at_call 8; refine HOPT.out.mono ?_; rintro e w5 ⟨rfl, hb5⟩)
          go_ret
          exact ⟨by simp, hbel.trans (hb5.mono (by exact hsr))⟩
      · go_wp2
        go_ret
        exact ⟨rfl, ⟨rfl, rfl, rfl, Nat.le_refl _, fun _ _ => rfl⟩⟩
    · go_enter Try.func3, Try.ntmps3
      go_wp2_with fail
      refine c5.out.mono ?_
      rintro e w1 ⟨⟨r, rfl⟩, rfl⟩
      cases r <;>
      · go_wp2
        go_ret
        exact ⟨rfl, Below.refl _ _⟩
  · go_enter Try.func3, Try.ntmps3
    go_wp2_with fail
    refine c5.out.mono ?_
    rintro e w1 ⟨⟨r, rfl⟩, rfl⟩
    cases r <;>
    · go_wp2
      go_ret
      exact ⟨rfl, Below.refl _ _⟩

end Go.Proofs.Qxb6604493a
