import Derived.Test.Qxb6604321aDec
namespace Go.Proofs.Qxb6604321a
open Go.RowKit

/-- the eight kept strings, as a value -/
def keptV (s0 s1 s2 s3 s4 s5 s6 s7 : ByteArray) : List Value := [.string s0, .string s1, .string s2, .string s3, .string s4, .string s5, .string s6, .string s7]

set_option maxHeartbeats 400000 in
theorem new_any (a : Option Addr) (n c : Nat) (s0 s1 s2 s3 s4 s5 s6 s7 : ByteArray) (w : World) :
    Calls Try.prog 10 #[.slice a n c, .agg #[.string s0, .string s1, .string s2, .string s3, .string s4, .string s5, .string s6, .string s7]] w fun e w' => e = .returned (.pointer (some ⟨w.heap.size + 1, 0, none⟩)) ∧ UBlk w' (w.heap.size + 1) (.slice a n c) (keptV s0 s1 s2 s3 s4 s5 s6 s7) ∧ Below w.heap.size w w' ∧ w'.heap.size = w.heap.size + 2 := by
  go_enter Try.func10, Try.ntmps10
  go_wp2
  go_ret
  refine ⟨rfl, ?_, ((Below.refl _ _).alloc (Nat.le_refl _) _).alloc (by simp) _, by simp⟩
  unfold UBlk keptV
  show ((w.heap.push _).push _)[w.heap.size + 1]? = _
  rw [Array.getElem?_push, if_pos (by simp)]

theorem buf_any (U n c : Nat) (a : Option Addr) (ks : List Value) (w : World) (h : UBlk w U (.slice a n c) ks) :
    Calls Try.prog 14 #[.pointer (some ⟨U, 0, none⟩)] w fun e w' => e = .returned (.slice a n c) ∧ w = w' := by
  have hc := h.cell
  clear h
  go_enter Try.func14, Try.ntmps14
  go_wp2
  go_ret
  exact ⟨rfl, rfl⟩

theorem zzdecode_any (U base n0 c0 : Nat) (a0 : Option Addr) (z0 : List Int) (ks : List Value) (s : ByteArray) (plus : Bool) (w : World) (hU : UBlk w U (.slice a0 n0 c0) ks) (hown : Owns w base a0 n0 c0 z0) (hbase : base ≤ w.heap.size) (hs : s.size ≤ 4194304) :
    Calls Try.prog 11 #[.pointer (some ⟨U, 0, none⟩), .string s, .bool plus] w fun e w' => e = .returned (.bool (dec plus (bytesOf s)).2) ∧ ∃ a c, DRel w w' U base (rowOf a0) ks a c (dec plus (bytesOf s)).1 := by
  have HC := hide (decode_any U base n0 c0 a0 z0 ks s plus w hU hown hbase hs)
  clear hU hown
  obtain ⟨r, hr⟩ : ∃ r, (dec plus (bytesOf s)).2 = r := ⟨_, rfl⟩
  rw [hr] at HC
  rw [hr]
  obtain ⟨o, ho⟩ : ∃ o, (dec plus (bytesOf s)).1 = o := ⟨_, rfl⟩
  rw [ho] at HC
  rw [ho]
  clear hr ho
  go_enter Try.func11, Try.ntmps11
  go_wp2_with (go_at_call 25; refine HC.out.mono ?_; rintro e w1 ⟨rfl, hd⟩; have HD := hide hd; clear hd)
  go_ret
  exact ⟨rfl, HD.out⟩

set_option maxHeartbeats 400000 in
theorem same_any (a b : Option Addr) (len ca cb : Nat) (zs : List Int) (w : World) (Ha : Bytes w a len ca zs) (Hb : Bytes w b len cb zs) :
    Calls Try.prog 13 #[.slice a len ca, .slice b len cb] w fun e w' => e = .returned (.bool true) ∧ ∃ n, w' = w.drewN n := by
  have hm : len ≤ 9223372036854775807 := by have h1 := Ha.2.1; have h2 := Ha.2.2.1; unfold maxLen at h2; omega
  have HA := hide Ha
  have HB := hide Hb
  clear Ha Hb
  have hne : ((len : Int) != (len : Int)) = false := by simp
  go_enter Try.func13, Try.ntmps13
  go_wp2
  go_loopw [5] (fun i wr => ∃ k nq : Nat, k ≤ len ∧ i = .int .i64 k ∧ wr = w.drewN nq) (fun i _ => len - (intOf i).toNat)
  case atStart => exact ⟨0, 0, Nat.zero_le _, rfl, rfl⟩
  case round =>
  obtain ⟨k, nq, hk, rfl, rfl⟩ := hrel
  by_cases hlt : k < len
  · obtain ⟨_, hca, _, _, ⟨_, h0⟩ | ⟨ba, oa, rfl, hcella⟩⟩ := HA.out
    · omega
    obtain ⟨_, hcb, _, _, ⟨_, h0⟩ | ⟨bb, ob, rfl, hcellb⟩⟩ := HB.out
    · omega
    have h1 := hcella k hlt
    have h2 := hcellb k hlt
    obtain ⟨x, hx⟩ : ∃ x, x = zs.getD k 0 := ⟨_, rfl⟩
    rw [← hx] at h1 h2
    have hxx : (x != x) = false := by simp
    clear hcella hcellb hx
    go_wp2
    go_quiet (fail)
    go_wp2
    go_roundw
    case rel => exact ⟨k + 1, _, by omega, by go_num, rfl⟩
    case measure => simp [intOf]; omega
  · go_wp2
    go_ret
    exact ⟨rfl, _, rfl⟩

/-- an answer of a size guard: true only under p -/
def Ans (p : Prop) (e : Ending) : Prop := ∃ r : Bool, e = .returned (.bool r) ∧ (r = true → p)
theorem ans_no {p : Prop} : Ans p (.returned (.bool false)) := ⟨false, rfl, by simp⟩
theorem ans_yes {p : Prop} (h : p) : Ans p (.returned (.bool true)) := ⟨true, rfl, fun _ => h⟩
theorem ans_any {r : Bool} : Ans True (.returned (.bool r)) := ⟨r, rfl, fun _ => trivial⟩

-- the size guards: true only where both lengths are small
set_option maxHeartbeats 400000 in
theorem bytes17 (a b : Option Addr) (la ca lb cb : Nat) (s0 s1 s2 s3 s4 s5 s6 s7 : ByteArray) (x y z : Bool) (w : World) :
    Calls Try.prog 17 #[.slice a la ca, .agg #[.string s0, .string s1, .string s2, .string s3, .string s4, .string s5, .string s6, .string s7], .slice b lb cb, .bool x, .bool y, .bool z] w fun e w' => Ans (la ≤ 1048576 ∧ lb ≤ 1048576) e ∧ Below w.heap.size w w' := by
  by_cases hla : la ≤ 1048576
  · go_enter Try.func17, Try.ntmps17
    go_wp2
    go_loopw [13, 14] (fun t i wr => ∃ (k : Nat) (z : Int), i = .int .i64 k ∧ k ≤ 8 ∧ t = .int .i64 z ∧ 0 ≤ z ∧ z ≤ 1048576 ∧ Below w.heap.size w wr ∧ ∀ j, j < 8 → ∃ q, wr.cell? ⟨w.heap.size, j, none⟩ = some (.string q)) (fun _ i _ => 8 - (intOf i).toNat)
    case atStart =>
      refine ⟨0, _, rfl, by omega, rfl, by omega, by omega, (Below.refl _ _).alloc (Nat.le_refl _) _, fun j hj => ?_⟩
      have : j = 0 ∨ j = 1 ∨ j = 2 ∨ j = 3 ∨ j = 4 ∨ j = 5 ∨ j = 6 ∨ j = 7 := by omega
      rcases this with rfl | rfl | rfl | rfl | rfl | rfl | rfl | rfl <;> simp
    case round =>
    obtain ⟨k, z, rfl, hk, rfl, hz0, hz1, hbel, hcells⟩ := hrel
    have HC := hide hcells
    clear hcells
    by_cases hlt : k < 8
    · obtain ⟨q, hq⟩ := HC.out k hlt
      by_cases hq1 : q.size ≤ 1048576
      · by_cases hsum : z + q.size ≤ 1048576
        · go_wp2
          go_roundw
          case rel => exact ⟨k + 1, _, by go_num, by omega, rfl, by omega, hsum, hbel, HC.out⟩
          case measure => simp [intOf]; omega
        · go_wp2
          go_ret
          exact ⟨ans_no, hbel⟩
      · go_wp2
        go_ret
        exact ⟨ans_no, hbel⟩
    · by_cases hlb : lb ≤ 1048576
      · by_cases hsum : z + lb ≤ 1048576
        · go_wp2
          go_ret
          exact ⟨ans_yes ⟨hla, hlb⟩, hbel⟩
        · go_wp2
          go_ret
          exact ⟨ans_no, hbel⟩
      · go_wp2
        go_ret
        exact ⟨ans_no, hbel⟩
  · go_enter Try.func17, Try.ntmps17
    go_wp2
    go_ret
    exact ⟨ans_no, (Below.refl _ _).alloc (Nat.le_refl _) _⟩

-- the law's own guard: whatever it answers
set_option maxHeartbeats 400000 in
theorem over_any (la lb : Nat) (hla : la ≤ 1048576) (hlb : lb ≤ 1048576) (s0 s1 s2 s3 s4 s5 s6 s7 : ByteArray) (w : World) :
    Calls Try.prog 8 #[.agg #[.string s0, .string s1, .string s2, .string s3, .string s4, .string s5, .string s6, .string s7], .int .i64 la, .int .i64 lb] w fun e w' => Ans True e ∧ Below w.heap.size w w' := by
  go_enter Try.func8, Try.ntmps8
  go_wp2
  go_loopw [7, 8] (fun t i wr => ∃ (k : Nat) (z : Int), i = .int .i64 k ∧ k ≤ 8 ∧ t = .int .i64 z ∧ 0 ≤ z ∧ z ≤ 2097152 + 1048576 * k ∧ Below w.heap.size w wr ∧ ∀ j, j < 8 → ∃ q, wr.cell? ⟨w.heap.size, j, none⟩ = some (.string q)) (fun _ i _ => 8 - (intOf i).toNat)
  case atStart =>
    refine ⟨0, _, rfl, by omega, rfl, by omega, by omega, (Below.refl _ _).alloc (Nat.le_refl _) _, fun j hj => ?_⟩
    have : j = 0 ∨ j = 1 ∨ j = 2 ∨ j = 3 ∨ j = 4 ∨ j = 5 ∨ j = 6 ∨ j = 7 := by omega
    rcases this with rfl | rfl | rfl | rfl | rfl | rfl | rfl | rfl <;> simp
  case round =>
  obtain ⟨k, z, rfl, hk, rfl, hz0, hz1, hbel, hcells⟩ := hrel
  have HC := hide hcells
  clear hcells
  by_cases hlt : k < 8
  · obtain ⟨q, hq⟩ := HC.out k hlt
    by_cases hq1 : q.size ≤ 1048576
    · go_wp2
      go_roundw
      case rel => exact ⟨k + 1, _, by go_num, by omega, rfl, by omega, by omega, hbel, HC.out⟩
      case measure => simp [intOf]; omega
    · go_wp2
      go_ret
      exact ⟨ans_any, hbel⟩
  · go_wp2
    go_ret
    exact ⟨ans_any, hbel⟩

end Go.Proofs.Qxb6604321a
