import Derived.Test.Qxb6604493aRows
import Derived.WalkKit
import Derived.WalkSpells
import Derived.WalkLawsBesides
import Derived.Deep.QuietTactic
import Derived.BigQuiet
import Derived.RegionTactic
import Derived.Handy
namespace Go.Proofs.Qxb6604493a
open Go.RowKit

theorem hide {p : Prop} (h : p) : Hid p := h

/-- the options: a name and a value each -/
def Opts (w : World) (a : Option Addr) (len : Nat) (os : List (ByteArray × ByteArray)) : Prop :=
  os.length = len ∧ ∀ j, j < len → ∃ b off p1 p2, a = some ⟨b, off, none⟩ ∧ os[j]? = some (p1, p2) ∧ w.cell? ⟨b, off + j * 2, none⟩ = some (.string p1) ∧ w.cell? ⟨b, off + j * 2 + 1, none⟩ = some (.string p2)
theorem Opts.same {w w' : World} {a : Option Addr} {len : Nat} {os : List (ByteArray × ByteArray)} (h : Opts w a len os) (e : ∀ x, a = some x → x.block < w.heap.size → ∀ o, w'.cell? ⟨x.block, o, none⟩ = w.cell? ⟨x.block, o, none⟩) : Opts w' a len os := by
  refine ⟨h.1, fun j hj => ?_⟩
  obtain ⟨b, off, p1, p2, rfl, h2, h3, h4⟩ := h.2 j hj
  have hb : b < w.heap.size := World.block_lt_of_cell? w _ h3
  exact ⟨b, off, p1, p2, rfl, h2, (e _ rfl hb _).trans h3, (e _ rfl hb _).trans h4⟩
theorem Opts.below {w w' : World} {a : Option Addr} {len : Nat} {os : List (ByteArray × ByteArray)} (h : Opts w a len os) (hb : Below w.heap.size w w') : Opts w' a len os :=
  h.same fun x _ hx o => hb.cell (p := ⟨x.block, o, none⟩) hx
theorem Opts.drewN {w : World} {a : Option Addr} {len : Nat} {os : List (ByteArray × ByteArray)} (h : Opts w a len os) (n : Nat) : Opts (w.drewN n) a len os := h.same fun _ _ _ _ => rfl

/-- an answer of a size guard -/
def Ans (e : Ending) : Prop := ∃ r : Bool, e = .returned (.bool r)
theorem ans_any (r : Bool) : Ans (.returned (.bool r)) := ⟨r, rfl⟩
/-- a count that cannot wrap -/
def Num (e : Ending) : Prop := ∃ t : Int, e = .returned (.int .i64 t) ∧ 0 ≤ t ∧ t ≤ 8388608
theorem num_any (t : Int) (h0 : 0 ≤ t) (h1 : t ≤ 8388608) : Num (.returned (.int .i64 t)) := ⟨t, rfl, h0, h1⟩

set_option maxHeartbeats 400000 in
theorem obytes_any (a : Option Addr) (len cap : Nat) (os : List (ByteArray × ByteArray)) (w : World) (hl : len ≤ 65536) (h : Opts w a len os) :
    Calls Try.prog 6 #[.slice a len cap] w fun e w' => Num e ∧ ∃ n, w' = w.drewN n := by
  have HC := hide h
  clear h
  go_enter Try.func6, Try.ntmps6
  go_wp2
  go_loopw [3, 4] (fun t i wr => ∃ (k nq : Nat) (z : Int), k ≤ len ∧ i = .int .i64 k ∧ t = .int .i64 z ∧ 0 ≤ z ∧ z ≤ 1048576 ∧ wr = w.drewN nq) (fun _ i _ => len - (intOf i).toNat)
  case atStart => exact ⟨0, 0, 0, Nat.zero_le _, rfl, rfl, by omega, by omega, rfl⟩
  case round =>
  obtain ⟨k, nq, z, hk, rfl, rfl, hz0, hz1, rfl⟩ := hrel
  by_cases hlt : k < len
  · obtain ⟨b, off, p1, p2, rfl, -, hn, hv⟩ := HC.out.2 k hlt
    by_cases h1 : p1.size ≤ 1048576
    · by_cases h2 : p2.size ≤ 1048576
      · by_cases h3 : z + (32 + p1.size + p2.size) ≤ 1048576
        · go_wp2
          go_quiet (fail)
          go_wp2
          go_roundw
          case rel => exact ⟨k + 1, _, _, by omega, by go_num, rfl, by omega, h3, rfl⟩
          case measure => simp [intOf]; omega
        · go_wp2
          go_quiet (fail)
          go_wp2
          go_ret
          exact ⟨num_any _ (by omega) (by omega), _, rfl⟩
      · go_wp2
        go_ret
        exact ⟨num_any _ (by omega) (by omega), _, rfl⟩
    · go_wp2
      go_ret
      exact ⟨num_any _ (by omega) (by omega), _, rfl⟩
  · go_wp2
    go_ret
    exact ⟨num_any _ (by omega) (by omega), _, rfl⟩

set_option maxHeartbeats 400000 in
theorem bytes5 (a : Option Addr) (len cap : Nat) (os : List (ByteArray × ByteArray)) (s : ByteArray) (w : World) (hm : len ≤ 9223372036854775807) (h : Opts w a len os) :
    Calls Try.prog 5 #[.slice a len cap, .string s] w fun e w' => Ans e ∧ w = w' := by
  have HC := hide h
  clear h
  by_cases hl : len ≤ 1048576
  · go_enter Try.func5, Try.ntmps5
    go_wp2
    go_loop [5, 6] (fun t i => ∃ (k : Nat) (z : Int), k ≤ len ∧ i = .int .i64 k ∧ t = .int .i64 z ∧ 0 ≤ z ∧ z ≤ 1048576) (fun _ i => len - (intOf i).toNat)
    case atStart => exact ⟨0, _, Nat.zero_le _, rfl, rfl, by omega, by omega⟩
    case round =>
    obtain ⟨k, z, hk, rfl, rfl, hz0, hz1⟩ := hrel
    by_cases hlt : k < len
    · obtain ⟨b, off, p1, p2, rfl, -, hn, hv⟩ := HC.out.2 k hlt
      by_cases h1 : p1.size ≤ 1048576
      · by_cases h2 : z + p1.size ≤ 1048576
        · by_cases h3 : p2.size ≤ 1048576
          · by_cases h4 : z + p1.size + p2.size ≤ 1048576
            · go_wp2
              go_round
              case rel => exact ⟨k + 1, _, by omega, by go_num, rfl, by omega, h4⟩
              case measure => simp [intOf]; omega
            · go_wp2
              go_ret
              exact ⟨ans_any _, rfl⟩
          · go_wp2
            go_ret
            exact ⟨ans_any _, rfl⟩
        · go_wp2
          go_ret
          exact ⟨ans_any _, rfl⟩
      · go_wp2
        go_ret
        exact ⟨ans_any _, rfl⟩
    · by_cases h1 : s.size ≤ 1048576
      · by_cases h2 : z + s.size ≤ 1048576
        all_goals
          go_wp2
          go_ret
          exact ⟨ans_any _, rfl⟩
      · go_wp2
        go_ret
        exact ⟨ans_any _, rfl⟩
  · go_enter Try.func5, Try.ntmps5
    go_wp2
    go_ret
    exact ⟨ans_any _, rfl⟩

end Go.Proofs.Qxb6604493a
