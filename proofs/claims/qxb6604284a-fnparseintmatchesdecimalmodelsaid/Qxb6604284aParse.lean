import Derived.Test.Qxb6604284aCut
namespace Go.Proofs.Qxb6604284a
open Go.RowKit

theorem hide {p : Prop} (h : p) : Hid p := h
theorem ret_two {k : IntKind} {a b : Int} {c d : Bool} (h1 : a = b) (h2 : c = d) : Ending.returned (.tuple #[.int k a, .bool c]) = .returned (.tuple #[.int k b, .bool d]) := by rw [h1, h2]

theorem Bytes.drewN {w : World} {a : Option Addr} {len cap : Nat} {zs : List Int} (H : Bytes w a len cap zs) (n : Nat) : Bytes (w.drewN n) a len cap zs := by
  obtain ⟨h1, h2, h3, h4, h5 | ⟨b, off, rfl, hc⟩⟩ := H
  · exact ⟨h1, h2, h3, h4, .inl h5⟩
  · exact ⟨h1, h2, h3, h4, .inr ⟨b, off, rfl, fun j hj => by simpa using hc j hj⟩⟩

-- no sign; digits alone, at least one
set_option maxHeartbeats 400000 in
theorem parse_pos (b off len cap : Nat) (ds : List Int) (w : World) (H : Bytes w (some ⟨b, off, none⟩) len cap ds) (hpos : 0 < len) (hneg : (ds.getD 0 0 == 45) = false) (hd : digRun ds = len) :
    Calls Try.prog 21 #[.slice (some ⟨b, off, none⟩) len cap] w fun e w' => e = .returned (.tuple #[.int .i64 (rv false ds), .bool (rok false ds)]) ∧ ∃ n, w' = w.drewN n := by
  have hcut := cut_any _ len cap ds w H
  rw [hd] at hcut
  have HC := hide hcut
  clear hcut
  obtain ⟨hz, hl, hm, hb, ⟨h, _⟩ | ⟨b', off', h, hc⟩⟩ := H
  · cases h
  simp at h
  obtain ⟨rfl, rfl⟩ := h
  unfold maxLen at hm
  have hc0 := hc 0 hpos
  have hall := (digRun_all ds).1 (hd.trans hz.symm)
  simp only [Nat.add_zero] at hc0
  obtain ⟨c0, h0⟩ : ∃ c0, c0 = ds.getD 0 0 := ⟨_, rfl⟩
  rw [← h0] at hc0 hneg
  clear hd hb h0
  have hlen : ((len : Int) == 0) = false := by simp; omega
  go_enter Try.func21, Try.ntmps21
  go_wp2_with (go_at_call 27; refine HC.out.mono ?_; rintro e w1 ⟨a2, l2, c2, n, rfl, hl2, rfl⟩; obtain rfl : l2 = 0 := by omega)
  clear HC hl2
  go_loop [7, 37] (fun m i => ∃ k : Nat, k ≤ len ∧ i = .int .i64 k ∧ m = .int .u64 (decVal (ds.take k)) ∧ decVal (ds.take k) ≤ 9223372036854775808) (fun _ i => len - (intOf i).toNat)
  case atStart => exact ⟨0, Nat.zero_le _, rfl, rfl, by simp [decVal]⟩
  case round =>
    obtain ⟨k, hk, rfl, rfl, hmk⟩ := hrel
    have h0 := decVal_nonneg (ds.take k) (fun c hc => hall c (List.mem_of_mem_take hc))
    by_cases hlt : k < len
    · have hzk : k < ds.length := by omega
      have hcell : (w.drewN n).cell? ⟨b, off + k, none⟩ = some (.int .u8 (ds.getD k 0)) := by simpa using hc k hlt
      have hdg := isDig_get ds hall k hzk
      have HT := hide (decVal_take ds k hzk)
      have HA := hide hall
      clear hall
      go_wp2
      all_goals first
        | (have ht : 922337203685477580 < decVal (ds.take k) := by assumption
           go_ret2
           have R := r_over false ds (over_tenth ds HA.out k hzk ht)
           exact ⟨ret_two R.2.symm R.1.symm, _, rfl⟩)
        | (have ht : 9223372036854775808 < decVal (ds.take k) * 10 + (ds[k] - 48) := by assumption
           go_ret2
           have R := r_over false ds (over_step ds HA.out k hzk ht)
           exact ⟨ret_two R.2.symm R.1.symm, _, rfl⟩)
        | skip
      go_round
      case rel => exact ⟨k + 1, by omega, by go_num, by rw [HT.out], by rw [HT.out]; assumption⟩
      case measure => simp [intOf]; omega
    · obtain rfl : k = len := by omega
      have HE := hide (show decVal (ds.take k) = decVal ds by rw [List.take_of_length_le (by omega)])
      go_wp2
      · have hb : 9223372036854775807 < decVal (ds.take k) := by assumption
        go_ret2
        have R := r_pos_over ds (by rw [← HE.out]; unfold big; omega)
        exact ⟨ret_two R.2.symm R.1.symm, _, rfl⟩
      · have hb : decVal (ds.take k) ≤ 9223372036854775807 := by assumption
        go_ret2
        have R := r_pos ds (by rw [← HE.out]; unfold big; omega)
        exact ⟨ret_two (by rw [R.2, ← HE.out]) R.1.symm, _, rfl⟩

theorem neg_back (m : Int) (h0 : 0 ≤ m) (h : m ≤ 9223372036854775808) : wrap64 (-wrap64 m) = -m := by
  unfold wrap64; omega
-- a sign, then digits alone, at least one
set_option maxHeartbeats 400000 in
theorem parse_neg (b off len cap : Nat) (ds : List Int) (w : World) (H : Bytes w (some ⟨b, off, none⟩) (len + 1) cap (45 :: ds)) (hpos : 0 < len) (hd : digRun ds = len) :
    Calls Try.prog 21 #[.slice (some ⟨b, off, none⟩) (len + 1) cap] w fun e w' => e = .returned (.tuple #[.int .i64 (rv true ds), .bool (rok true ds)]) ∧ ∃ n, w' = w.drewN n := by
  obtain ⟨hz0, hl, hm, hb, ⟨h, _⟩ | ⟨b', off', h, hc00⟩⟩ := H
  · cases h
  simp at h
  obtain ⟨rfl, rfl⟩ := h
  have hz : ds.length = len := by simpa using hz0
  have hc : ∀ j, j < len → w.cell? ⟨b, off + 1 + j, none⟩ = some (.int .u8 (ds.getD j 0)) := fun j hj => by
    have := hc00 (j + 1) (by omega)
    rw [show off + 1 + j = off + (j + 1) by omega, this]; simp
  have hcut := cut_any (some ⟨b, off + 1, none⟩) len (cap - 1) ds w ⟨hz, by omega, by omega, fun c hc => hb c (by simp [hc]), .inr ⟨b, off + 1, rfl, hc⟩⟩
  rw [hd] at hcut
  have HC := hide hcut
  clear hcut
  unfold maxLen at hm
  have hc0 : w.cell? ⟨b, off, none⟩ = some (.int .u8 45) := by simpa using hc00 0 (by omega)
  have hall := (digRun_all ds).1 (hd.trans hz.symm)
  clear hd hb hz0 hc00
  have hlen : ((len : Int) == 0) = false := by simp; omega
  have hcap1 : ¬ cap = 1 := by omega
  go_enter Try.func21, Try.ntmps21
  go_wp2_with (go_at_call 27; refine HC.out.mono ?_; rintro e w1 ⟨a2, l2, c2, n, rfl, hl2, rfl⟩; obtain rfl : l2 = 0 := by omega)
  clear HC hl2
  go_loop [7, 37] (fun m i => ∃ k : Nat, k ≤ len ∧ i = .int .i64 k ∧ m = .int .u64 (decVal (ds.take k)) ∧ decVal (ds.take k) ≤ 9223372036854775808) (fun _ i => len - (intOf i).toNat)
  case atStart => exact ⟨0, Nat.zero_le _, rfl, rfl, by simp [decVal]⟩
  case round =>
    obtain ⟨k, hk, rfl, rfl, hmk⟩ := hrel
    have h0 := decVal_nonneg (ds.take k) (fun c hc => hall c (List.mem_of_mem_take hc))
    by_cases hlt : k < len
    · have hzk : k < ds.length := by omega
      have hcell : (w.drewN n).cell? ⟨b, off + 1 + k, none⟩ = some (.int .u8 (ds.getD k 0)) := by simpa using hc k hlt
      have hdg := isDig_get ds hall k hzk
      have HT := hide (decVal_take ds k hzk)
      have HA := hide hall
      clear hall
      go_wp2
      all_goals first
        | (have ht : 922337203685477580 < decVal (ds.take k) := by assumption
           go_ret2
           have R := r_over true ds (over_tenth ds HA.out k hzk ht)
           exact ⟨ret_two R.2.symm R.1.symm, _, rfl⟩)
        | (have ht : 9223372036854775808 < decVal (ds.take k) * 10 + (ds[k] - 48) := by assumption
           go_ret2
           have R := r_over true ds (over_step ds HA.out k hzk ht)
           exact ⟨ret_two R.2.symm R.1.symm, _, rfl⟩)
        | skip
      go_round
      case rel => exact ⟨k + 1, by omega, by go_num, by rw [HT.out], by rw [HT.out]; assumption⟩
      case measure => simp [intOf]; omega
    · obtain rfl : k = len := by omega
      have HE := hide (show decVal (ds.take k) = decVal ds by rw [List.take_of_length_le (by omega)])
      go_wp2
      go_ret2
      have R := r_neg ds (by rw [← HE.out]; unfold big; omega)
      exact ⟨ret_two (by rw [R.2, ← HE.out, ← neg_back _ h0 hmk]) R.1.symm, _, rfl⟩

-- no digit, or something behind the digits
set_option maxHeartbeats 400000 in
theorem parse_pos_bad (b off len cap : Nat) (ds : List Int) (w : World) (H : Bytes w (some ⟨b, off, none⟩) len cap ds) (hneg : 0 < len → (ds.getD 0 0 == 45) = false) (hd : len = 0 ∨ digRun ds < len) :
    Calls Try.prog 21 #[.slice (some ⟨b, off, none⟩) len cap] w fun e w' => e = .returned (.tuple #[.int .i64 0, .bool false]) ∧ ∃ n, w' = w.drewN n := by
  have HC := hide (cut_any _ len cap ds w H)
  obtain ⟨hz, hl, hm, hb, ⟨h, _⟩ | ⟨b', off', h, hc⟩⟩ := H
  · cases h
  simp at h
  obtain ⟨rfl, rfl⟩ := h
  unfold maxLen at hm
  obtain ⟨r, HR⟩ : ∃ r, Hid (digRun ds = r) := ⟨_, rfl⟩
  rw [HR.out] at hd
  rw [HR.out] at HC
  by_cases hl0 : len = 0
  · subst hl0
    clear hneg hc hd hb
    go_enter Try.func21, Try.ntmps21
    go_wp2_with (go_at_call 27; refine HC.out.mono ?_; rintro e w1 ⟨a2, l2, c2, n, rfl, hl2, rfl⟩; obtain rfl : l2 = 0 := (by omega); obtain rfl : r = 0 := (by omega))
    go_ret2
    exact ⟨rfl, _, rfl⟩
  have hc0 := hc 0 (by omega)
  have hneg := hneg (by omega)
  simp only [Nat.add_zero] at hc0
  obtain ⟨c0, h0⟩ : ∃ c0, c0 = ds.getD 0 0 := ⟨_, rfl⟩
  rw [← h0] at hc0 hneg
  clear hb h0 hc
  have hrl : r < len := by omega
  clear hd
  by_cases hr0 : r = 0
  · subst hr0
    go_enter Try.func21, Try.ntmps21
    go_wp2_with (go_at_call 27; refine HC.out.mono ?_; rintro e w1 ⟨a2, l2, c2, n, rfl, hl2, rfl⟩; clear HC hl2)
    go_ret2
    exact ⟨rfl, _, rfl⟩
  · have hr1 : ((r : Int) == 0) = false := by simp; omega
    go_enter Try.func21, Try.ntmps21
    go_wp2_with (go_at_call 27; refine HC.out.mono ?_; rintro e w1 ⟨a2, l2, c2, n, rfl, hl2, rfl⟩; have hl3 : ((l2 : Int) != 0) = true := (by simp; omega); clear HC hl2)
    go_ret2
    exact ⟨rfl, _, rfl⟩

-- a sign; behind it no digit, or something behind the digits
set_option maxHeartbeats 400000 in
theorem parse_neg_bad (b off len cap : Nat) (ds : List Int) (w : World) (H : Bytes w (some ⟨b, off, none⟩) (len + 1) cap (45 :: ds)) (hd : len = 0 ∨ digRun ds < len) :
    Calls Try.prog 21 #[.slice (some ⟨b, off, none⟩) (len + 1) cap] w fun e w' => e = .returned (.tuple #[.int .i64 0, .bool false]) ∧ ∃ n, w' = w.drewN n := by
  obtain ⟨hz0, hl, hm, hb, ⟨h, _⟩ | ⟨b', off', h, hc00⟩⟩ := H
  · cases h
  simp at h
  obtain ⟨rfl, rfl⟩ := h
  have hz : ds.length = len := by simpa using hz0
  have hc : ∀ j, j < len → w.cell? ⟨b, off + 1 + j, none⟩ = some (.int .u8 (ds.getD j 0)) := fun j hj => by
    have := hc00 (j + 1) (by omega)
    rw [show off + 1 + j = off + (j + 1) by omega, this]; simp
  have hb1 : ∀ c ∈ ds, 0 ≤ c ∧ c ≤ 255 := fun c hc => hb c (by simp [hc])
  have hc0 : w.cell? ⟨b, off, none⟩ = some (.int .u8 45) := by simpa using hc00 0 (by omega)
  by_cases hcap1 : cap = 1
  · subst hcap1
    obtain rfl : len = 0 := by omega
    obtain rfl : ds = [] := List.length_eq_zero_iff.1 hz
    have HC := hide (cut_any (some ⟨b, off, none⟩) 0 0 [] w ⟨rfl, by omega, by unfold maxLen; omega, by simp, .inr ⟨b, off, rfl, by intro j hj; omega⟩⟩)
    clear hc hb hb1 hd hc00
    go_enter Try.func21, Try.ntmps21
    go_wp2_with (go_at_call 27; refine HC.out.mono ?_; rintro e w1 ⟨a2, l2, c2, n, rfl, hl2, rfl⟩; clear HC)
    go_ret2
    exact ⟨rfl, _, rfl⟩
  have HC := hide (cut_any (some ⟨b, off + 1, none⟩) len (cap - 1) ds w ⟨hz, by omega, by omega, hb1, .inr ⟨b, off + 1, rfl, hc⟩⟩)
  unfold maxLen at hm
  have hrl := digRun_le ds
  obtain ⟨r, HR⟩ : ∃ r, Hid (digRun ds = r) := ⟨_, rfl⟩
  rw [HR.out] at hd hrl
  rw [HR.out] at HC
  clear hb hb1 hz0 hc00 hc
  by_cases hr0 : r = 0
  · subst hr0
    go_enter Try.func21, Try.ntmps21
    go_wp2_with (go_at_call 27; refine HC.out.mono ?_; rintro e w1 ⟨a2, l2, c2, n, rfl, hl2, rfl⟩; clear HC hl2)
    go_ret2
    exact ⟨rfl, _, rfl⟩
  · have hr1 : ((r : Int) == 0) = false := by simp; omega
    go_enter Try.func21, Try.ntmps21
    go_wp2_with (go_at_call 27; refine HC.out.mono ?_; rintro e w1 ⟨a2, l2, c2, n, rfl, hl2, rfl⟩; have hl3 : ((l2 : Int) != 0) = true := (by simp; omega); clear HC hl2)
    go_ret2
    exact ⟨rfl, _, rfl⟩

set_option maxHeartbeats 400000 in
theorem parse_nil (w : World) :
    Calls Try.prog 21 #[.slice none 0 0] w fun e w' => e = .returned (.tuple #[.int .i64 0, .bool false]) ∧ ∃ n, w' = w.drewN n := by
  have HC := hide (cut_nil w)
  go_enter Try.func21, Try.ntmps21
  go_wp2_with (go_at_call 27; refine HC.out.mono ?_; rintro e w1 ⟨a2, l2, c2, n, rfl, hl2, rfl⟩; clear HC)
  go_ret2
  exact ⟨rfl, _, rfl⟩

-- parseInt computes 'intV' and 'okB'
theorem parse_any (a : Option Addr) (len cap : Nat) (zs : List Int) (w : World) (H : Bytes w a len cap zs) :
    Calls Try.prog 21 #[.slice a len cap] w fun e w' => e = .returned (.tuple #[.int .i64 (intV zs), .bool (okB zs)]) ∧ ∃ n, w' = w.drewN n := by
  have H' := H
  obtain ⟨hz, hl, hm, hb, ⟨rfl, rfl⟩ | ⟨b, off, rfl, hc⟩⟩ := H'
  · obtain rfl : len = 0 := by omega
    obtain rfl : zs = [] := List.length_eq_zero_iff.1 hz
    have R := ans_bad [] (by rw [body_nil.2]; exact bad_empty)
    rw [R.1, R.2]
    exact parse_nil w
  match zs, hz, H with
  | [], hz, H =>
    have R := ans_bad [] (by rw [body_nil.2]; exact bad_empty)
    rw [R.1, R.2]
    exact parse_pos_bad b off len cap [] w H (by simp) (.inl (by simpa using hz.symm))
  | c :: r, hz, H =>
    obtain rfl : len = r.length + 1 := by simpa using hz.symm
    by_cases hcm : (c == 45) = false
    · have B := body_pos c r hcm
      have hdl := digRun_le (c :: r)
      by_cases hd : digRun (c :: r) = (c :: r).length
      · have R := ans_good (c :: r) (by rw [B.2]; exact good_run _ (by simp) hd)
        rw [B.1, B.2] at R
        rw [R.1, R.2]
        exact parse_pos b off _ cap (c :: r) w H (by omega) (by simpa using hcm) (by simpa using hd)
      · have R := ans_bad (c :: r) (by rw [B.2]; exact bad_run _ (by omega))
        rw [R.1, R.2]
        exact parse_pos_bad b off _ cap (c :: r) w H (fun _ => by simpa using hcm) (.inr (by simp at hd hdl; omega))
    · obtain rfl : c = 45 := by simpa using hcm
      have B := body_neg r
      have hdl := digRun_le r
      by_cases hr : r.length = 0
      · obtain rfl : r = [] := List.length_eq_zero_iff.1 hr
        have R := ans_bad (45 :: []) (by rw [B.2]; exact bad_empty)
        rw [R.1, R.2]
        exact parse_neg_bad b off 0 cap [] w H (.inl rfl)
      by_cases hd : digRun r = r.length
      · have R := ans_good (45 :: r) (by rw [B.2]; exact good_run _ (by omega) hd)
        rw [B.1, B.2] at R
        rw [R.1, R.2]
        exact parse_neg b off r.length cap r w H (by omega) hd
      · have R := ans_bad (45 :: r) (by rw [B.2]; exact bad_run _ (by omega))
        rw [R.1, R.2]
        exact parse_neg_bad b off r.length cap r w H (.inr (by omega))

theorem zzparse_any (a : Option Addr) (len cap : Nat) (zs : List Int) (w : World) (H : Bytes w a len cap zs) :
    Calls Try.prog 17 #[.slice a len cap] w fun e w' => e = .returned (.tuple #[.int .i64 (intV zs), .bool (okB zs)]) ∧ ∃ n, w' = w.drewN n := by
  have HC := hide (parse_any a len cap zs w H)
  clear H
  go_enter Try.func17, Try.ntmps17
  go_wp2_with (go_at_call 21; refine HC.out.mono ?_; rintro e w1 ⟨rfl, n, rfl⟩; clear HC)
  go_ret2
  exact ⟨rfl, _, rfl⟩

end Go.Proofs.Qxb6604284a
