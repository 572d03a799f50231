import Derived.Test.Qxb6604284aModB
import Derived.Test.Qxb6604284aModC
import Derived.Test.Qxb6604284aModD
namespace Go.Proofs.Qxb6604284a
open Go.RowKit

set_option maxHeartbeats 400000 in
theorem model_pos_bad (b off n cap : Nat) (zs ds : List Int) (w : World) (hzd : zs = ds) (H : Bytes w (some ⟨b, off, none⟩) n cap zs) (hn : 0 < n) (hds : ¬ ∀ c ∈ ds, isDig c = true) (h45 : (zs.getD 0 0 == 45) = false) :
    Calls Try.prog 18 #[.slice (some ⟨b, off, none⟩) n cap] w fun e w' => e = .returned (.tuple #[.int .i64 0, .bool false]) ∧ ∃ n, w' = w.drewN n := by
  obtain ⟨hz, hl, hm, -, ⟨h, _⟩ | ⟨b', off', h, hc⟩⟩ := H
  · cases h
  simp at h
  obtain ⟨rfl, rfl⟩ := h
  unfold maxLen at hm
  have hdl : ds.length + 0 = n := by rw [← hz, hzd]; simp
  have hdz : ∀ k, 0 ≤ k → k < n → zs.getD k 0 = ds.getD (k - 0) 0 := by
    intro k h1 h2
    rw [hzd]; simp
  have hc0 : w.cell? ⟨b, off, none⟩ = some (.int .u8 (zs.getD 0 0)) := by simpa using hc 0 (by omega)
  obtain ⟨c0, hc0z⟩ : ∃ c0, c0 = zs.getD 0 0 := ⟨_, rfl⟩
  rw [← hc0z] at hc0
  have hsg : (c0 == 45) = false := by
    rw [hc0z]; exact h45
  have hin : ((0 : Int) == (n : Int)) = false := by simp; omega
  have HD := hide hds
  have HZ := hide hdz
  have HC := hide hc
  have HL := hide hdl
  clear hds hdz hc hdl hc0z hzd hz h45
  go_enter Try.func18, Try.ntmps18
  go_wp2
  go_loop [6] (fun i => ∃ k : Nat, 0 ≤ k ∧ k ≤ n ∧ i = .int .i64 k ∧ ∀ j, 0 ≤ j → j < k → isDig (zs.getD j 0) = true) (fun i => n - (intOf i).toNat)
  case atStart => exact ⟨0, Nat.le_refl _, by omega, rfl, by omega⟩
  case round =>
  obtain ⟨k, hk0, hk, rfl, hsofar⟩ := hrel
  have HF := hide hsofar
  clear hsofar
  by_cases hlt : k < n
  · have hcell := HC.out k hlt
    obtain ⟨c, hcz⟩ : ∃ c, c = zs.getD k 0 := ⟨_, rfl⟩
    rw [← hcz] at hcell
    have HCZ := hide hcz
    clear hcz
    by_cases hdg : 48 ≤ c ∧ c ≤ 57
    · obtain ⟨hg1, hg2⟩ := hdg
      go_wp2
      go_round
      case rel => exact ⟨k + 1, by omega, by omega, by go_num, fun j h1 h2 => by
        by_cases e : j = k
        · rw [e, ← HCZ.out]; simp [isDig]; omega
        · exact HF.out j h1 (by omega)⟩
      case measure => simp [intOf]; omega
    · by_cases hg1 : 48 ≤ c
      case' pos => have hg2 : 57 < c := by omega
      all_goals
        clear hdg
        go_wp2
        go_ret2
        exact ⟨rfl, 0, rfl⟩
  exfalso
  refine HD.out fun c hc => ?_
  obtain ⟨i, hi, rfl⟩ := List.getElem_of_mem hc
  have h1 := HF.out (i + 0) (by omega) (by have := HL.out; omega)
  rw [HZ.out (i + 0) (by omega) (by have := HL.out; omega), show i + 0 - 0 = i by omega] at h1
  simpa [hi] using h1

set_option maxHeartbeats 400000 in
theorem model_neg_bad (b off n cap : Nat) (zs ds : List Int) (w : World) (hzd : zs = (45 :: ds)) (H : Bytes w (some ⟨b, off, none⟩) n cap zs) (hn : 1 < n) (hds : ¬ ∀ c ∈ ds, isDig c = true) :
    Calls Try.prog 18 #[.slice (some ⟨b, off, none⟩) n cap] w fun e w' => e = .returned (.tuple #[.int .i64 0, .bool false]) ∧ ∃ n, w' = w.drewN n := by
  obtain ⟨hz, hl, hm, -, ⟨h, _⟩ | ⟨b', off', h, hc⟩⟩ := H
  · cases h
  simp at h
  obtain ⟨rfl, rfl⟩ := h
  unfold maxLen at hm
  have hdl : ds.length + 1 = n := by rw [← hz, hzd]; simp
  have hdz : ∀ k, 1 ≤ k → k < n → zs.getD k 0 = ds.getD (k - 1) 0 := by
    intro k h1 h2
    rw [hzd]; obtain ⟨j, rfl⟩ : ∃ j, k = j + 1 := ⟨k - 1, by omega⟩; simp
  have hc0 : w.cell? ⟨b, off, none⟩ = some (.int .u8 (zs.getD 0 0)) := by simpa using hc 0 (by omega)
  obtain ⟨c0, hc0z⟩ : ∃ c0, c0 = zs.getD 0 0 := ⟨_, rfl⟩
  rw [← hc0z] at hc0
  have hsg : (c0 == 45) = true := by
    rw [hc0z, hzd]; rfl
  have hin : ((1 : Int) == (n : Int)) = false := by simp; omega
  have HD := hide hds
  have HZ := hide hdz
  have HC := hide hc
  have HL := hide hdl
  clear hds hdz hc hdl hc0z hzd hz
  go_enter Try.func18, Try.ntmps18
  go_wp2
  go_loop [6] (fun i => ∃ k : Nat, 1 ≤ k ∧ k ≤ n ∧ i = .int .i64 k ∧ ∀ j, 1 ≤ j → j < k → isDig (zs.getD j 0) = true) (fun i => n - (intOf i).toNat)
  case atStart => exact ⟨1, Nat.le_refl _, by omega, rfl, by omega⟩
  case round =>
  obtain ⟨k, hk0, hk, rfl, hsofar⟩ := hrel
  have HF := hide hsofar
  clear hsofar
  by_cases hlt : k < n
  · have hcell := HC.out k hlt
    obtain ⟨c, hcz⟩ : ∃ c, c = zs.getD k 0 := ⟨_, rfl⟩
    rw [← hcz] at hcell
    have HCZ := hide hcz
    clear hcz
    by_cases hdg : 48 ≤ c ∧ c ≤ 57
    · obtain ⟨hg1, hg2⟩ := hdg
      go_wp2
      go_round
      case rel => exact ⟨k + 1, by omega, by omega, by go_num, fun j h1 h2 => by
        by_cases e : j = k
        · rw [e, ← HCZ.out]; simp [isDig]; omega
        · exact HF.out j h1 (by omega)⟩
      case measure => simp [intOf]; omega
    · by_cases hg1 : 48 ≤ c
      case' pos => have hg2 : 57 < c := by omega
      all_goals
        clear hdg
        go_wp2
        go_ret2
        exact ⟨rfl, 0, rfl⟩
  exfalso
  refine HD.out fun c hc => ?_
  obtain ⟨i, hi, rfl⟩ := List.getElem_of_mem hc
  have h1 := HF.out (i + 1) (by omega) (by have := HL.out; omega)
  rw [HZ.out (i + 1) (by omega) (by have := HL.out; omega), show i + 1 - 1 = i by omega] at h1
  simpa [hi] using h1

set_option maxHeartbeats 400000 in
theorem model_nil (w : World) :
    Calls Try.prog 18 #[.slice none 0 0] w fun e w' => e = .returned (.tuple #[.int .i64 0, .bool false]) ∧ ∃ n, w' = w.drewN n := by
  go_enter Try.func18, Try.ntmps18
  go_wp2
  go_ret2
  exact ⟨rfl, 0, rfl⟩

set_option maxHeartbeats 400000 in
theorem model_empty (x : Addr) (cap : Nat) (w : World) :
    Calls Try.prog 18 #[.slice (some x) 0 cap] w fun e w' => e = .returned (.tuple #[.int .i64 0, .bool false]) ∧ ∃ n, w' = w.drewN n := by
  go_enter Try.func18, Try.ntmps18
  go_wp2
  go_ret2
  exact ⟨rfl, 0, rfl⟩

set_option maxHeartbeats 400000 in
theorem model_sign (b off cap : Nat) (w : World) (hc : w.cell? ⟨b, off, none⟩ = some (.int .u8 45)) :
    Calls Try.prog 18 #[.slice (some ⟨b, off, none⟩) 1 cap] w fun e w' => e = .returned (.tuple #[.int .i64 0, .bool false]) ∧ ∃ n, w' = w.drewN n := by
  go_enter Try.func18, Try.ntmps18
  go_wp2
  go_ret2
  exact ⟨rfl, 0, rfl⟩

theorem model_pos_good (b off n cap : Nat) (ds : List Int) (w : World) (H : Bytes w (some ⟨b, off, none⟩) n cap ds) (hn : 0 < n) (hds : ∀ c ∈ ds, isDig c = true) :
    Calls Try.prog 18 #[.slice (some ⟨b, off, none⟩) n cap] w fun e w' => e = .returned (.tuple #[.int .i64 (rv false ds), .bool (rok false ds)]) ∧ ∃ n, w' = w.drewN n := by
  have hl : ds.length = n := H.1
  have hs := skip_lt ds (by omega)
  have hsl := sig_len ds
  rcases Nat.lt_trichotomy (ds.length - skip ds) 19 with h | h | h
  · exact model_pos_short b off n cap _ (ds.length - skip ds) ds ds w rfl H hn hds rfl (by omega) h
  · cases hx : lexGt (sigOf ds) (limOf false) with
    | true => exact model_pos_gt b off n cap _ (ds.length - skip ds) ds ds w rfl H hn hds rfl (by omega) h hx
    | false => exact model_pos_le b off n cap _ (ds.length - skip ds) ds ds w rfl H hn hds rfl (by omega) h hx
  · exact model_pos_long b off n cap _ (ds.length - skip ds) ds ds w rfl H hn hds rfl (by omega) h
theorem model_neg_good (b off n cap : Nat) (ds : List Int) (w : World) (H : Bytes w (some ⟨b, off, none⟩) n cap (45 :: ds)) (hn : 1 < n) (hds : ∀ c ∈ ds, isDig c = true) :
    Calls Try.prog 18 #[.slice (some ⟨b, off, none⟩) n cap] w fun e w' => e = .returned (.tuple #[.int .i64 (rv true ds), .bool (rok true ds)]) ∧ ∃ n, w' = w.drewN n := by
  have hl : ds.length + 1 = n := H.1
  have hs := skip_lt ds (by omega)
  have hsl := sig_len ds
  rcases Nat.lt_trichotomy (ds.length - skip ds) 19 with h | h | h
  · exact model_neg_short b off n cap _ (ds.length - skip ds) (45 :: ds) ds w rfl H hn hds rfl (by omega) h
  · cases hx : lexGt (sigOf ds) (limOf true) with
    | true => exact model_neg_gt b off n cap _ (ds.length - skip ds) (45 :: ds) ds w rfl H hn hds rfl (by omega) h hx
    | false => exact model_neg_le b off n cap _ (ds.length - skip ds) (45 :: ds) ds w rfl H hn hds rfl (by omega) h hx
  · exact model_neg_long b off n cap _ (ds.length - skip ds) (45 :: ds) ds w rfl H hn hds rfl (by omega) h

/-- zzParseIntModel computes what parseInt computes -/
theorem model_any (a : Option Addr) (len cap : Nat) (zs : List Int) (w : World) (H : Bytes w a len cap zs) :
    Calls Try.prog 18 #[.slice a len cap] w fun e w' => e = .returned (.tuple #[.int .i64 (intV zs), .bool (okB zs)]) ∧ ∃ n, w' = w.drewN n := by
  have H' := H
  obtain ⟨hz, hl, hm, hb, ⟨rfl, rfl⟩ | ⟨b, off, rfl, hc⟩⟩ := H'
  · obtain rfl : len = 0 := by omega
    obtain rfl : zs = [] := List.length_eq_zero_iff.1 hz
    have R := ans_bad [] (by rw [body_nil.2]; exact bad_empty)
    rw [R.1, R.2]
    exact model_nil w
  match zs, hz, H with
  | [], hz, H =>
    have R := ans_bad [] (by rw [body_nil.2]; exact bad_empty)
    rw [R.1, R.2]
    obtain rfl : len = 0 := by simpa using hz.symm
    exact model_empty _ cap w
  | c :: r, hz, H =>
    obtain rfl : len = r.length + 1 := by simpa using hz.symm
    by_cases hcm : (c == 45) = false
    · have B := body_pos c r hcm
      have hdl := digRun_le (c :: r)
      by_cases hd : ∀ x ∈ c :: r, isDig x = true
      · have R := ans_good (c :: r) (by rw [B.2]; exact good_run _ (by simp) ((digRun_all _).2 hd))
        rw [B.1, B.2] at R
        rw [R.1, R.2]
        exact model_pos_good b off _ cap (c :: r) w H (by omega) hd
      · have hne : ¬ digRun (c :: r) = (c :: r).length := fun h => hd ((digRun_all _).1 h)
        have R := ans_bad (c :: r) (by rw [B.2]; exact bad_run _ (by omega))
        rw [R.1, R.2]
        exact model_pos_bad b off _ cap (c :: r) (c :: r) w rfl H (by omega) hd (by simpa using hcm)
    · obtain rfl : c = 45 := by simpa using hcm
      have B := body_neg r
      have hdl := digRun_le r
      by_cases hr : r.length = 0
      · obtain rfl : r = [] := List.length_eq_zero_iff.1 hr
        have R := ans_bad (45 :: []) (by rw [B.2]; exact bad_empty)
        rw [R.1, R.2]
        have hcz := hc 0 (by simp)
        exact model_sign b off cap w (by simpa using hcz)
      by_cases hd : ∀ x ∈ r, isDig x = true
      · have R := ans_good (45 :: r) (by rw [B.2]; exact good_run _ (by omega) ((digRun_all _).2 hd))
        rw [B.1, B.2] at R
        rw [R.1, R.2]
        exact model_neg_good b off _ cap r w H (by omega) hd
      · have hne : ¬ digRun r = r.length := fun h => hd ((digRun_all _).1 h)
        have R := ans_bad (45 :: r) (by rw [B.2]; exact bad_run _ (by omega))
        rw [R.1, R.2]
        exact model_neg_bad b off _ cap (45 :: r) r w rfl H (by omega) hd

end Go.Proofs.Qxb6604284a
