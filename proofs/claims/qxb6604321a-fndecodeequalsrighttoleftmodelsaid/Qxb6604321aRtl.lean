import Derived.Test.Qxb6604321aInvF
import Derived.Test.Qxb6604321aRtlPlain
namespace Go.Proofs.Qxb6604321a
open Go.RowKit

theorem ret_int {k : IntKind} {a b : Int} (h : a = b) : Ending.returned (.int k a) = .returned (.int k b) := by rw [h]

set_option maxHeartbeats 400000 in
theorem tab_any (c : Int) (w : World) (h0 : 0 ≤ c) (h1 : c ≤ 255) :
    Calls Try.prog 26 #[.int .u8 c] w fun e w' => e = .returned (.tuple #[.int .u8 (hexN c), .bool (isHex c)]) ∧ w = w' := by
  obtain ⟨hx, ehx⟩ : ∃ hx, hexN c = hx := ⟨_, rfl⟩
  obtain ⟨ix, eix⟩ : ∃ ix, isHex c = ix := ⟨_, rfl⟩
  rw [ehx, eix]
  have HX := hide ehx
  have IX := hide eix
  clear ehx eix
  go_enter Try.func26, Try.ntmps26
  go_wp2
  go_loop [4] (fun i => ∃ k : Nat, k ≤ 16 ∧ i = .int .i64 k ∧ ∀ j, j < k → ¬ (digT false).getD j 0 = c ∧ ¬ (digT true).getD j 0 = c) (fun i => 16 - (intOf i).toNat)
  case atStart => exact ⟨0, by omega, rfl, by omega⟩
  case round =>
  obtain ⟨k, hk, rfl, hno⟩ := hrel
  have HNO := hide hno
  clear hno
  by_cases hlt : k < 16
  · obtain ⟨d1, hd1, e1⟩ := dig_get_false k hlt
    obtain ⟨d2, hd2, e2⟩ := dig_get_true k hlt
    have hit := tab_hit ⟨k, hlt⟩
    simp only at hit
    rw [← e1, ← e2] at hit
    have HIT := hide hit
    have E1 := hide e1
    have E2 := hide e2
    clear hit e1 e2
    by_cases hc1 : d1 = c
    · have t1 : (d1 == c) = true := by simp [hc1]
      have C1 := hide hc1
      clear hc1
      go_wp2
      go_ret2
      have q := HIT.out.1
      rw [C1.out] at q
      exact ⟨ret_two (by rw [← HX.out, q.2]) (by rw [← IX.out, q.1]), rfl⟩
    · have t1 : (d1 == c) = false := by simpa using hc1
      have C1 := hide hc1
      clear hc1
      by_cases hc2 : d2 = c
      · have t2 : (d2 == c) = true := by simp [hc2]
        have C2 := hide hc2
        clear hc2
        go_wp2
        go_ret2
        have q := HIT.out.2
        rw [C2.out] at q
        exact ⟨ret_two (by rw [← HX.out, q.2]) (by rw [← IX.out, q.1]), rfl⟩
      · have t2 : (d2 == c) = false := by simpa using hc2
        have C2 := hide hc2
        clear hc2
        go_wp2
        go_round
        case rel => exact ⟨k + 1, by omega, by go_num, fun j hj => by
          by_cases e : j = k
          · subst e; exact ⟨by rw [← E1.out]; exact C1.out, by rw [← E2.out]; exact C2.out⟩
          · exact HNO.out j (by omega)⟩
        case measure => simp [intOf]; omega
  · have q := tab_miss c ⟨h0, h1⟩ (fun i hi => HNO.out i (by omega))
    have Q := hide q
    clear q
    go_wp2
    go_ret2
    exact ⟨ret_two (by rw [← HX.out, Q.out.2]) (by rw [← IX.out, Q.out.1]), rfl⟩

set_option maxHeartbeats 1000000 in
theorem fb_any (s : ByteArray) (w : World) (hs : s.size ≤ 4194304) :
    Calls Try.prog 12 #[.string s] w fun e w' => ∃ k : Nat, e = .returned (.int .i64 k) ∧ FB (bytesOf s) k ∧ w = w' := by
  go_enter Try.func12, Try.ntmps12
  go_wp2
  go_loop [3] (fun i => ∃ k : Nat, k ≤ s.size ∧ i = .int .i64 k ∧ ∀ j, j < k → ¬ Bad (bytesOf s) j) (fun i => s.size - (intOf i).toNat)
  case atStart => exact ⟨0, by omega, rfl, by omega⟩
  case round =>
  obtain ⟨k, hk, rfl, hno⟩ := hrel
  have HNO := hide hno
  have HSL := hide (bytesOf_len s)
  clear hno
  by_cases hlt : k < s.size
  · obtain ⟨x, hx⟩ : ∃ x : Int, (↑(s[k]'hlt).toNat : Int) = x := ⟨_, rfl⟩
    have hxg := bytesOf_get s k hlt
    rw [hx] at hxg
    have HX := hide hxg
    clear hxg
    by_cases h37 : x = 37
    · have t37 : (x != 37) = false := by simp [h37]
      have H37 := hide h37
      clear h37
      by_cases hk2 : k + 2 < s.size
      · obtain ⟨y, hy⟩ : ∃ y : Int, (↑(s[k + 1]'(by omega)).toNat : Int) = y := ⟨_, rfl⟩
        obtain ⟨z, hz⟩ : ∃ z : Int, (↑(s[k + 2]'hk2).toNat : Int) = z := ⟨_, rfl⟩
        have hyb := byte_bd (s[k + 1]'(by omega))
        have hzb := byte_bd (s[k + 2]'hk2)
        have hyg := bytesOf_get s (k + 1) (by omega)
        have hzg := bytesOf_get s (k + 2) hk2
        rw [hy] at hyb hyg
        rw [hz] at hzb hzg
        have HY := hide hyg
        have HZ := hide hzg
        have cy := hide (tab_any y w hyb.1 hyb.2)
        have cz := hide (tab_any z w hzb.1 hzb.2)
        clear hyg hzg
        cases hiy : isHex y with
        | false =>
          rw [hiy] at cy
          have HIY := hide hiy
          clear hiy
          go_wp2_with fail
          refine cy.out.mono ?_
          rintro e w2 ⟨rfl, rfl⟩
          go_wp2
          go_ret
          refine ⟨k, rfl, ⟨by rw [HSL.out]; exact hk, HNO.out, fun _ => ⟨by rw [HX.out, H37.out], ?_⟩⟩, rfl⟩
          rintro ⟨-, q, -⟩
          rw [HY.out, HIY.out] at q
          cases q
        | true =>
          rw [hiy] at cy
          have HIY := hide hiy
          clear hiy
          cases hiz : isHex z with
          | false =>
            rw [hiz] at cz
            have HIZ := hide hiz
            clear hiz
            go_wp2_with fail
            refine cy.out.mono ?_
            rintro e w2 ⟨rfl, rfl⟩
            go_wp2_with fail
            refine cz.out.mono ?_
            rintro e w2 ⟨rfl, rfl⟩
            go_wp2
            go_ret
            refine ⟨k, rfl, ⟨by rw [HSL.out]; exact hk, HNO.out, fun _ => ⟨by rw [HX.out, H37.out], ?_⟩⟩, rfl⟩
            rintro ⟨-, -, q⟩
            rw [HZ.out, HIZ.out] at q
            cases q
          | true =>
            rw [hiz] at cz
            have HIZ := hide hiz
            clear hiz
            go_wp2_with fail
            refine cy.out.mono ?_
            rintro e w2 ⟨rfl, rfl⟩
            go_wp2_with fail
            refine cz.out.mono ?_
            rintro e w2 ⟨rfl, rfl⟩
            clear cy cz
            go_wp2
            go_round
            case rel => exact ⟨k + 1, by omega, by go_num, fun j hj => by
              by_cases e : j = k
              · subst e
                rintro ⟨-, q⟩
                exact q ⟨by rw [HSL.out]; exact hk2, by rw [HY.out, HIY.out], by rw [HZ.out, HIZ.out]⟩
              · exact HNO.out j (by omega)⟩
            case measure => simp [intOf]; omega
      · go_wp2
        go_ret
        refine ⟨k, rfl, ⟨by rw [HSL.out]; exact hk, HNO.out, fun _ => ⟨by rw [HX.out, H37.out], ?_⟩⟩, rfl⟩
        rintro ⟨q, -⟩
        rw [HSL.out] at q
        exact hk2 q
    · have t37 : (x != 37) = true := by simpa using h37
      have H37 := hide h37
      clear h37
      go_wp2
      go_round
      case rel => exact ⟨k + 1, by omega, by go_num, fun j hj => by
        by_cases e : j = k
        · subst e
          rintro ⟨q, -⟩
          rw [HX.out] at q
          exact H37.out q
        · exact HNO.out j (by omega)⟩
      case measure => simp [intOf]; omega
  · go_wp2
    go_ret
    exact ⟨s.size, rfl, ⟨by rw [HSL.out]; exact Nat.le_refl _, fun i hi => HNO.out i (by omega), fun q => absurd q (by rw [HSL.out]; omega)⟩, rfl⟩

end Go.Proofs.Qxb6604321a
