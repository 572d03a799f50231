import Derived.Test.Qxb6604284aClone
import Derived.Test.Qxb6604284aModelPlain
namespace Go.Proofs.Qxb6604284a
open Go.RowKit

theorem dn_three (w : World) (a b c : Nat) : ∃ n, ((w.drewN a).drewN b).drewN c = w.drewN n := ⟨a + b + c, by simp only [World.drewN_drewN]⟩
theorem lim_get_false (j : Nat) (h : j < 19) : ∃ x : Int, (↑(({ data := #[57, 50, 50, 51, 51, 55, 50, 48, 51, 54, 56, 53, 52, 55, 55, 53, 56, 48, 55] } : ByteArray)[j]'h).toNat : Int) = x ∧ x = (limOf false).getD j 0 := by
  refine ⟨_, rfl, ?_⟩
  have all : ∀ i : Fin 19, (↑(({ data := #[57, 50, 50, 51, 51, 55, 50, 48, 51, 54, 56, 53, 52, 55, 55, 53, 56, 48, 55] } : ByteArray)[i.val]'i.isLt).toNat : Int) = (limOf false).getD i.val 0 := by decide
  exact all ⟨j, h⟩
theorem lim_get_true (j : Nat) (h : j < 19) : ∃ x : Int, (↑(({ data := #[57, 50, 50, 51, 51, 55, 50, 48, 51, 54, 56, 53, 52, 55, 55, 53, 56, 48, 56] } : ByteArray)[j]'h).toNat : Int) = x ∧ x = (limOf true).getD j 0 := by
  refine ⟨_, rfl, ?_⟩
  have all : ∀ i : Fin 19, (↑(({ data := #[57, 50, 50, 51, 51, 55, 50, 48, 51, 54, 56, 53, 52, 55, 55, 53, 56, 48, 56] } : ByteArray)[i.val]'i.isLt).toNat : Int) = (limOf true).getD i.val 0 := by decide
  exact all ⟨j, h⟩

set_option maxHeartbeats 1000000 in
theorem model_pos_long (b off n cap p m : Nat) (zs ds : List Int) (w : World) (hzd : zs = ds) (H : Bytes w (some ⟨b, off, none⟩) n cap zs) (hn : 0 < n) (hds : ∀ c ∈ ds, isDig c = true) (hp : skip ds = p) (hpm : p + m + 0 = n) (hm19 : 19 < m) :
    Calls Try.prog 18 #[.slice (some ⟨b, off, none⟩) n cap] w fun e w' => e = .returned (.tuple #[.int .i64 (rv false ds), .bool (rok false ds)]) ∧ ∃ n, w' = w.drewN n := by
  obtain ⟨hz, hl, hm, -, ⟨h, _⟩ | ⟨b', off', h, hc⟩⟩ := H
  · cases h
  simp at h
  obtain ⟨rfl, rfl⟩ := h
  unfold maxLen at hm
  have hdl : ds.length + 0 = n := by rw [← hz, hzd]; simp
  have hdz : ∀ k, 0 ≤ k → k < n → 48 ≤ zs.getD k 0 ∧ zs.getD k 0 ≤ 57 ∧ zs.getD k 0 = ds.getD (k - 0) 0 := by
    intro k h1 h2
    have e : zs.getD k 0 = ds.getD (k - 0) 0 := by
      rw [hzd]; simp
    have hk : k - 0 < ds.length := by omega
    have hg := isDig_get ds hds (k - 0) hk
    rw [e]
    simp only [List.getD_eq_getElem?_getD, List.getElem?_eq_getElem hk, Option.getD_some]
    exact ⟨hg.1, hg.2, trivial⟩
  have hc0 : w.cell? ⟨b, off, none⟩ = some (.int .u8 (zs.getD 0 0)) := by simpa using hc 0 (by omega)
  obtain ⟨c0, hc0z⟩ : ∃ c0, c0 = zs.getD 0 0 := ⟨_, rfl⟩
  rw [← hc0z] at hc0
  have hsg : (c0 == 45) = false := by
    have := hdz 0 (by omega) (by omega); rw [← hc0z] at this; simp; omega
  have hin : ((0 : Int) == (n : Int)) = false := by simp; omega
  have HS := hide hp
  have HD := hide hds
  have HZ := hide hdz
  have HC := hide hc
  have HL := hide hdl
  clear hp hds hdz hc hdl hc0z hzd hz
  go_enter Try.func18, Try.ntmps18
  go_wp2
  go_loop [6] (fun i => ∃ k : Nat, 0 ≤ k ∧ k ≤ n ∧ i = .int .i64 k) (fun i => n - (intOf i).toNat)
  case atStart => exact ⟨0, Nat.le_refl _, by omega, rfl⟩
  case round =>
  obtain ⟨k, hk0, hk, rfl⟩ := hrel
  by_cases hlt : k < n
  · have hcell := HC.out k hlt
    obtain ⟨hg1, hg2, -⟩ := HZ.out k hk0 hlt
    obtain ⟨c, hcz⟩ : ∃ c, c = zs.getD k 0 := ⟨_, rfl⟩
    rw [← hcz] at hcell hg1 hg2
    clear hcz
    go_wp2
    go_round
    case rel => exact ⟨k + 1, by omega, by omega, by go_num⟩
    case measure => simp [intOf]; omega
  obtain rfl : k = n := by omega
  go_wp2
  go_loop [7] (fun i => ∃ q : Nat, 0 ≤ q ∧ q < k ∧ q - 0 ≤ p ∧ i = .int .i64 q) (fun i => k - (intOf i).toNat)
  case atStart => exact ⟨0, Nat.le_refl _, by omega, by omega, rfl⟩
  case round =>
  obtain ⟨q, hq0, hq, hqp, rfl⟩ := hrel
  by_cases hgo : q + 1 < k ∧ zs.getD q 0 = 48
  · obtain ⟨hlt2, h48⟩ := hgo
    have hcell := HC.out q hq
    rw [h48] at hcell
    have hst : q - 0 + 1 ≤ p := by
      have := skip_step ds (q - 0) (by rw [HS.out]; exact hqp) (by have := HL.out; omega) (by rw [← (HZ.out q hq0 hq).2.2]; exact h48)
      rw [HS.out] at this; exact this
    clear h48
    go_wp2
    go_round
    case rel => exact ⟨q + 1, by omega, by omega, by omega, by go_num⟩
    case measure => simp [intOf]; omega
  have hqe : q = p + 0 := by
    by_cases hlt2 : q + 1 < k
    · have := skip_stop ds (q - 0) (by rw [HS.out]; exact hqp) (by have := HL.out; omega) (by rw [← (HZ.out q hq0 hq).2.2]; exact fun h => hgo ⟨hlt2, h⟩)
      rw [HS.out] at this; omega
    · have := skip_end ds (q - 0) (by rw [HS.out]; exact hqp) (by have := HL.out; omega) (by have := HL.out; omega)
      rw [HS.out] at this; omega
  have hcell := HC.out q hq
  obtain ⟨c, hcz⟩ : ∃ c, c = zs.getD q 0 := ⟨_, rfl⟩
  rw [← hcz] at hcell hgo
  have hstop : q + 1 < k → (c == 48) = false := fun h => by simpa using fun h' => hgo ⟨h, h'⟩
  have hqm : q + m = k := by omega
  obtain ⟨sg, hsg0⟩ : ∃ sg, sg = sigOf ds := ⟨_, rfl⟩
  have hsl : sg.length = m := by rw [hsg0, sig_len, HS.out]; have := HL.out; omega
  have hsc : ∀ j, j < m → w.cell? ⟨b, off + q + j, none⟩ = some (.int .u8 (sg.getD j 0)) ∧ 48 ≤ sg.getD j 0 ∧ sg.getD j 0 ≤ 57 := by
    intro j hj
    have e : sg.getD j 0 = zs.getD (q + j) 0 := by
      rw [(HZ.out (q + j) (by omega) (by omega)).2.2, hsg0]
      simp only [sigOf, HS.out, List.getD_eq_getElem?_getD, List.getElem?_drop]
      rw [show p + j = q + j - 0 by omega]
    rw [e, show off + q + j = off + (q + j) by omega]
    exact ⟨HC.out _ (by omega), (HZ.out (q + j) (by omega) (by omega)).1, (HZ.out (q + j) (by omega) (by omega)).2.1⟩
  have HSG := hide hsg0
  have HSC := hide hsc
  have HQM := hide hqm
  clear hsg0 hsc hcz hgo hqe hqp hpm hqm HC
  have hs1 := hstop (by have := HQM.out; omega)
  have hlt2 : q + 1 < k := by have := HQM.out; omega
  have hkq : k - q = m := by have := HQM.out; omega
  go_wp2
  go_ret2
  have R := model_long false ds (by have := HL.out; omega) HD.out (by rw [← HSG.out, hsl]; exact hm19)
  exact ⟨ret_two R.1.symm R.2.symm, 0, rfl⟩

set_option maxHeartbeats 1000000 in
theorem model_neg_long (b off n cap p m : Nat) (zs ds : List Int) (w : World) (hzd : zs = (45 :: ds)) (H : Bytes w (some ⟨b, off, none⟩) n cap zs) (hn : 1 < n) (hds : ∀ c ∈ ds, isDig c = true) (hp : skip ds = p) (hpm : p + m + 1 = n) (hm19 : 19 < m) :
    Calls Try.prog 18 #[.slice (some ⟨b, off, none⟩) n cap] w fun e w' => e = .returned (.tuple #[.int .i64 (rv true ds), .bool (rok true ds)]) ∧ ∃ n, w' = w.drewN n := by
  obtain ⟨hz, hl, hm, -, ⟨h, _⟩ | ⟨b', off', h, hc⟩⟩ := H
  · cases h
  simp at h
  obtain ⟨rfl, rfl⟩ := h
  unfold maxLen at hm
  have hdl : ds.length + 1 = n := by rw [← hz, hzd]; simp
  have hdz : ∀ k, 1 ≤ k → k < n → 48 ≤ zs.getD k 0 ∧ zs.getD k 0 ≤ 57 ∧ zs.getD k 0 = ds.getD (k - 1) 0 := by
    intro k h1 h2
    have e : zs.getD k 0 = ds.getD (k - 1) 0 := by
      rw [hzd]; obtain ⟨j, rfl⟩ : ∃ j, k = j + 1 := ⟨k - 1, by omega⟩; simp
    have hk : k - 1 < ds.length := by omega
    have hg := isDig_get ds hds (k - 1) hk
    rw [e]
    simp only [List.getD_eq_getElem?_getD, List.getElem?_eq_getElem hk, Option.getD_some]
    exact ⟨hg.1, hg.2, trivial⟩
  have hc0 : w.cell? ⟨b, off, none⟩ = some (.int .u8 (zs.getD 0 0)) := by simpa using hc 0 (by omega)
  obtain ⟨c0, hc0z⟩ : ∃ c0, c0 = zs.getD 0 0 := ⟨_, rfl⟩
  rw [← hc0z] at hc0
  have hsg : (c0 == 45) = true := by
    rw [hc0z, hzd]; rfl
  have hin : ((1 : Int) == (n : Int)) = false := by simp; omega
  have HS := hide hp
  have HD := hide hds
  have HZ := hide hdz
  have HC := hide hc
  have HL := hide hdl
  clear hp hds hdz hc hdl hc0z hzd hz
  go_enter Try.func18, Try.ntmps18
  go_wp2
  go_loop [6] (fun i => ∃ k : Nat, 1 ≤ k ∧ k ≤ n ∧ i = .int .i64 k) (fun i => n - (intOf i).toNat)
  case atStart => exact ⟨1, Nat.le_refl _, by omega, rfl⟩
  case round =>
  obtain ⟨k, hk0, hk, rfl⟩ := hrel
  by_cases hlt : k < n
  · have hcell := HC.out k hlt
    obtain ⟨hg1, hg2, -⟩ := HZ.out k hk0 hlt
    obtain ⟨c, hcz⟩ : ∃ c, c = zs.getD k 0 := ⟨_, rfl⟩
    rw [← hcz] at hcell hg1 hg2
    clear hcz
    go_wp2
    go_round
    case rel => exact ⟨k + 1, by omega, by omega, by go_num⟩
    case measure => simp [intOf]; omega
  obtain rfl : k = n := by omega
  go_wp2
  go_loop [7] (fun i => ∃ q : Nat, 1 ≤ q ∧ q < k ∧ q - 1 ≤ p ∧ i = .int .i64 q) (fun i => k - (intOf i).toNat)
  case atStart => exact ⟨1, Nat.le_refl _, by omega, by omega, rfl⟩
  case round =>
  obtain ⟨q, hq0, hq, hqp, rfl⟩ := hrel
  by_cases hgo : q + 1 < k ∧ zs.getD q 0 = 48
  · obtain ⟨hlt2, h48⟩ := hgo
    have hcell := HC.out q hq
    rw [h48] at hcell
    have hst : q - 1 + 1 ≤ p := by
      have := skip_step ds (q - 1) (by rw [HS.out]; exact hqp) (by have := HL.out; omega) (by rw [← (HZ.out q hq0 hq).2.2]; exact h48)
      rw [HS.out] at this; exact this
    clear h48
    go_wp2
    go_round
    case rel => exact ⟨q + 1, by omega, by omega, by omega, by go_num⟩
    case measure => simp [intOf]; omega
  have hqe : q = p + 1 := by
    by_cases hlt2 : q + 1 < k
    · have := skip_stop ds (q - 1) (by rw [HS.out]; exact hqp) (by have := HL.out; omega) (by rw [← (HZ.out q hq0 hq).2.2]; exact fun h => hgo ⟨hlt2, h⟩)
      rw [HS.out] at this; omega
    · have := skip_end ds (q - 1) (by rw [HS.out]; exact hqp) (by have := HL.out; omega) (by have := HL.out; omega)
      rw [HS.out] at this; omega
  have hcell := HC.out q hq
  obtain ⟨c, hcz⟩ : ∃ c, c = zs.getD q 0 := ⟨_, rfl⟩
  rw [← hcz] at hcell hgo
  have hstop : q + 1 < k → (c == 48) = false := fun h => by simpa using fun h' => hgo ⟨h, h'⟩
  have hqm : q + m = k := by omega
  obtain ⟨sg, hsg0⟩ : ∃ sg, sg = sigOf ds := ⟨_, rfl⟩
  have hsl : sg.length = m := by rw [hsg0, sig_len, HS.out]; have := HL.out; omega
  have hsc : ∀ j, j < m → w.cell? ⟨b, off + q + j, none⟩ = some (.int .u8 (sg.getD j 0)) ∧ 48 ≤ sg.getD j 0 ∧ sg.getD j 0 ≤ 57 := by
    intro j hj
    have e : sg.getD j 0 = zs.getD (q + j) 0 := by
      rw [(HZ.out (q + j) (by omega) (by omega)).2.2, hsg0]
      simp only [sigOf, HS.out, List.getD_eq_getElem?_getD, List.getElem?_drop]
      rw [show p + j = q + j - 1 by omega]
    rw [e, show off + q + j = off + (q + j) by omega]
    exact ⟨HC.out _ (by omega), (HZ.out (q + j) (by omega) (by omega)).1, (HZ.out (q + j) (by omega) (by omega)).2.1⟩
  have HSG := hide hsg0
  have HSC := hide hsc
  have HQM := hide hqm
  clear hsg0 hsc hcz hgo hqe hqp hpm hqm HC
  have hs1 := hstop (by have := HQM.out; omega)
  have hlt2 : q + 1 < k := by have := HQM.out; omega
  have hkq : k - q = m := by have := HQM.out; omega
  go_wp2
  go_ret2
  have R := model_long true ds (by have := HL.out; omega) HD.out (by rw [← HSG.out, hsl]; exact hm19)
  exact ⟨ret_two R.1.symm R.2.symm, 0, rfl⟩

end Go.Proofs.Qxb6604284a
