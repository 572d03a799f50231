import Derived.Test.Qxb6604284aRows
import Derived.Test.Qxb6604284aPlain
import Derived.WalkKit
import Derived.WalkSpells
import Derived.WalkLawsBesides
import Derived.Deep.QuietTactic
import Derived.BigQuiet
import Derived.Handy
namespace Go.Proofs.Qxb6604284a
open Go.RowKit

/-- a slice of bytes that is read: nil, or at plain addresses; zs: its elements -/
def Bytes (w : World) (a : Option Addr) (len cap : Nat) (zs : List Int) : Prop :=
  zs.length = len ∧ len ≤ cap ∧ cap ≤ maxLen ∧ (∀ c ∈ zs, 0 ≤ c ∧ c ≤ 255) ∧
  ((a = none ∧ cap = 0) ∨ ∃ b off, a = some ⟨b, off, none⟩ ∧ ∀ j, j < len → w.cell? ⟨b, off + j, none⟩ = some (.int .u8 (zs.getD j 0)))

set_option maxHeartbeats 400000 in
theorem cut_some (b off len cap : Nat) (zs : List Int) (w : World) (hz : zs.length = len) (hcap : len ≤ cap) (hm : cap ≤ maxLen)
    (hc : ∀ j, j < len → w.cell? ⟨b, off + j, none⟩ = some (.int .u8 (zs.getD j 0))) :
    Calls Try.prog 27 #[.slice (some ⟨b, off, none⟩) len cap] w fun e w' => ∃ a2 l2 c2 n, e = .returned (.tuple #[.slice (some ⟨b, off, none⟩) (digRun zs) cap, .slice a2 l2 c2]) ∧ l2 + digRun zs = len ∧ w' = w.drewN n := by
  unfold maxLen at hm
  go_enter Try.func27, Try.ntmps27
  go_wp2
  go_loop [4] (fun i => ∃ k : Nat, k ≤ len ∧ i = .int .i64 k ∧ k ≤ digRun zs) (fun i => len - (intOf i).toNat)
  case atStart => exact ⟨0, Nat.zero_le _, rfl, Nat.zero_le _⟩
  case round =>
    obtain ⟨k, hk, rfl, hd⟩ := hrel
    by_cases hlt : k < len
    · have hcell := hc k hlt
      have hzk : k < zs.length := by omega
      by_cases hdg : isDig zs[k] = true
      · have hn := digRun_step zs k hd hzk hdg
        simp only [isDig, Bool.and_eq_true, decide_eq_true_eq] at hdg
        obtain ⟨h1, h2⟩ := hdg
        go_wp2
        go_round
        case rel => exact ⟨k + 1, by omega, by go_num, hn⟩
        case measure => simp [intOf]; omega
      · have HN : Hid (digRun zs = k) := digRun_stop zs k hd hzk (by simpa using hdg)
        have h3 : zs[k] < 48 ∨ 57 < zs[k] := by
          simp only [isDig, Bool.and_eq_true, decide_eq_true_eq] at hdg; omega
        clear hdg
        by_cases h1 : 48 ≤ zs[k]
        all_goals
          go_wp2
          go_quiet (fail)
          go_wp2
          go_ret2
          rw [HN.out]
          exact ⟨_, _, _, _, rfl, by omega, rfl⟩
    · have HN : Hid (digRun zs = k) := digRun_end zs k hd (by omega)
      by_cases hck : cap = k
      case' pos => subst hck
      all_goals
        go_wp2
        go_quiet (fail)
        go_wp2
        go_ret2
        rw [HN.out]
        exact ⟨_, _, _, _, rfl, by omega, rfl⟩

theorem cut_nil (w : World) :
    Calls Try.prog 27 #[.slice none 0 0] w fun e w' => ∃ a2 l2 c2 n, e = .returned (.tuple #[.slice none (digRun []) 0, .slice a2 l2 c2]) ∧ l2 + digRun [] = 0 ∧ w' = w.drewN n := by
  go_enter Try.func27, Try.ntmps27
  go_wp2
  refine wp_loop_rounds 1 ?_
  rw [rounds_succ]
  go_wp2
  go_quiet (fail)
  go_wp2
  go_ret2
  exact ⟨_, _, _, _, rfl, rfl, rfl⟩

theorem cut_any (a : Option Addr) (len cap : Nat) (zs : List Int) (w : World) (H : Bytes w a len cap zs) :
    Calls Try.prog 27 #[.slice a len cap] w fun e w' => ∃ a2 l2 c2 n, e = .returned (.tuple #[.slice a (digRun zs) cap, .slice a2 l2 c2]) ∧ l2 + digRun zs = len ∧ w' = w.drewN n := by
  obtain ⟨hz, hl, hm, hb, ⟨rfl, rfl⟩ | ⟨b, off, rfl, hc⟩⟩ := H
  · obtain rfl : len = 0 := by omega
    obtain rfl : zs = [] := List.length_eq_zero_iff.1 hz
    exact cut_nil w
  · exact cut_some b off len cap zs w hz hl hm hc

end Go.Proofs.Qxb6604284a
