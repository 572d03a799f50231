import Derived.Test.Qxb6604321aRows
import Derived.Test.Qxb6604321aPlain
import Derived.WalkKit
import Derived.WalkSpells
import Derived.WalkLawsBesides
import Derived.Deep.QuietTactic
import Derived.BigQuiet
import Derived.Handy
import Derived.Maps.AppendAt
namespace Go.Proofs.Qxb6604321a
open Go.RowKit

theorem hide {p : Prop} (h : p) : Hid p := h
theorem Try.info5 : (Try.prog.info? 5).map (fun i => (i.zero, i.size, i.bytes)) = some (some (.int .u8 0), 1, 1) := by kernel_rfl

/-- a slice of bytes that is read: nil, or at plain addresses; zs: its elements -/
def Bytes (w : World) (a : Option Addr) (len cap : Nat) (zs : List Int) : Prop :=
  zs.length = len ∧ len ≤ cap ∧ cap ≤ maxLen ∧ (∀ c ∈ zs, 0 ≤ c ∧ c ≤ 255) ∧
  ((a = none ∧ cap = 0) ∨ ∃ b off, a = some ⟨b, off, none⟩ ∧ ∀ j, j < len → w.cell? ⟨b, off + j, none⟩ = some (.int .u8 (zs.getD j 0)))

/-- a slice of bytes that the call owns -/
def Owns (w : World) (base : Nat) (a : Option Addr) (len cap : Nat) (zs : List Int) : Prop :=
  w.ownsRow base 5 1 (.slice a len cap) len (zs.map (Value.int .u8)) ∧ ∀ c ∈ zs, 0 ≤ c ∧ c ≤ 255

theorem row_form {w : World} {base n : Nat} {v : Value} {xs : List Value} (h : w.ownsRow base 5 1 v n xs) : ∃ a c, v = .slice a n c := by
  rcases h.2 with ⟨rfl, rfl⟩ | ⟨g, cap, cur, rfl, _⟩
  · exact ⟨none, 0, rfl⟩
  · exact ⟨_, _, rfl⟩
theorem Owns.length {w : World} {base len cap : Nat} {a : Option Addr} {zs : List Int} (h : Owns w base a len cap zs) : zs.length = len := by simpa using h.1.1
theorem Owns.bytes {w : World} {base len cap : Nat} {a : Option Addr} {zs : List Int} (h : Owns w base a len cap zs) : Bytes w a len cap zs := by
  have hl := h.length
  obtain ⟨h, hb⟩ := h
  have h0 := h
  rcases h.2 with ⟨h', _⟩ | ⟨g', cap', cur, h', _, _, h1, h2, _⟩
  · simp at h'
    obtain ⟨rfl, rfl, rfl⟩ := h'
    exact ⟨hl, Nat.le_refl _, Nat.zero_le _, hb, .inl ⟨rfl, rfl⟩⟩
  · simp at h'
    obtain ⟨rfl, rfl⟩ := h'
    refine ⟨hl, h1, h2, hb, .inr ⟨g', 0, rfl, fun j hj => ?_⟩⟩
    rw [Nat.zero_add, h0.cellAt j (by omega)]
    simp [hl, hj]
theorem Bytes.same {w w' : World} {a : Option Addr} {len cap : Nat} {zs : List Int} (H : Bytes w a len cap zs) (h : ∀ x, a = some x → ∀ o, w'.cell? ⟨x.block, o, none⟩ = w.cell? ⟨x.block, o, none⟩) : Bytes w' a len cap zs := by
  obtain ⟨h1, h2, h3, h4, h5 | ⟨b, off, rfl, hc⟩⟩ := H
  · exact ⟨h1, h2, h3, h4, .inl h5⟩
  · exact ⟨h1, h2, h3, h4, .inr ⟨b, off, rfl, fun j hj => by rw [h _ rfl]; exact hc j hj⟩⟩
theorem Bytes.drewN {w : World} {a : Option Addr} {len cap : Nat} {zs : List Int} (H : Bytes w a len cap zs) (n : Nat) : Bytes (w.drewN n) a len cap zs := H.same fun _ _ _ => rfl

theorem ret_two {k : IntKind} {a b : Int} {c d : Bool} (h1 : a = b) (h2 : c = d) : Ending.returned (.tuple #[.int k a, .bool c]) = .returned (.tuple #[.int k b, .bool d]) := by rw [h1, h2]

/-! ### the clone -/
theorem set_copy (zs : List Int) (len k : Nat) (hz : zs.length = len) (hk : k < len) : ((zs.take k ++ List.replicate (len - k) 0).map (Value.int .u8)).set k (.int .u8 (zs.getD k 0)) = (zs.take (k + 1) ++ List.replicate (len - (k + 1)) 0).map (Value.int .u8) := by
  rw [show len - k = (len - (k + 1)) + 1 by omega, List.replicate_succ, List.take_succ_eq_append_getElem (by omega)]
  rw [List.map_append, List.set_append_right _ _ (by simp; omega)]
  have e : k - (List.map (Value.int .u8) (zs.take k)).length = 0 := by simp; omega
  rw [e]
  have g : zs.getD k 0 = zs[k]'(by omega) := by simp [hz, hk]
  rw [g]
  simp only [List.map_append, List.map_cons, List.set_cons_zero, List.append_assoc, List.cons_append, List.nil_append]

set_option maxHeartbeats 400000 in
theorem clone_nil (w : World) : Calls Try.prog 9 #[.slice none 0 0] w fun e w' => e = .returned (.slice none 0 0) ∧ w' = w := by
  have hnil := fun w' => Lib.run_eql_slice_nil (P := Try.prog) w' 22 5 none 0 0 0 0 Try.underlying22
  go_enter Try.func9, Try.ntmps9
  go_wp2
  go_ret
  exact ⟨rfl, rfl⟩

set_option maxHeartbeats 400000 in
theorem clone_some (b off len cap : Nat) (zs : List Int) (w : World) (hz : zs.length = len) (hl : len ≤ 1048576) (hc : ∀ j, j < len → w.cell? ⟨b, off + j, none⟩ = some (.int .u8 (zs.getD j 0))) :
    Calls Try.prog 9 #[.slice (some ⟨b, off, none⟩) len cap] w fun e w' => e = .returned (.slice (some ⟨w.heap.size, 0, none⟩) len len) ∧ w'.ownsRow w.heap.size 5 1 (.slice (some ⟨w.heap.size, 0, none⟩) len len) len (zs.map (Value.int .u8)) ∧ Below w.heap.size w w' := by
  obtain ⟨i0, hi, hz0, hz1, hz2⟩ := info_parts Try.info5
  have hnil := fun w' => Lib.run_eql_slice_nil (P := Try.prog) w' 22 5 (some ⟨b, off, none⟩) len cap 0 0 Try.underlying22
  go_enter Try.func9, Try.ntmps9
  go_wp2_with (at_make; refine wpList_make_full _ rfl _ _ 22 rfl w.heap.size 5 i0 (.int .u8 0) 1 Try.underlying22 hi hz0 hz1 .i64 .i64 len len len rfl rfl rfl rfl (by rw [hz2]; omega) (by unfold maxLen; omega) (Nat.le_refl _) ?_; intro w1 hown hgr)
  go_loopw [4] (fun i wr => ∃ k : Nat, k ≤ len ∧ i = .int .i64 k ∧ wr.ownsRow w.heap.size 5 1 (.slice (some ⟨w.heap.size, 0, none⟩) len len) len ((zs.take k ++ List.replicate (len - k) 0).map (Value.int .u8)) ∧ Below w.heap.size w wr) (fun i _ => len - (intOf i).toNat)
  case atStart =>
    refine ⟨0, Nat.zero_le _, rfl, ?_, (Below.refl _ _).grown hgr (Nat.le_refl _) (by simp)⟩
    rw [show (Value.int .u8 0).cells = #[Value.int .u8 0] from rfl, toList_madeCells_one] at hown
    simpa using hown
  case round =>
    obtain ⟨k, hk, rfl, hrow, hbel⟩ := hrel
    clear hown hgr hnil
    by_cases hlt : k < len
    · have hsrc := hc k hlt
      have hb : b < w.heap.size := World.block_lt_of_cell? w _ hsrc
      have hcell : wr.cell? ⟨b, off + k, none⟩ = some (.int .u8 (zs.getD k 0)) := (hbel.cell (by exact hb)).trans hsrc
      have hst := hrow.stored k (.int .u8 (zs.getD k 0))
      rw [set_copy zs len k hz hlt] at hst
      obtain ⟨c, hcz⟩ : ∃ c, c = zs.getD k 0 := ⟨_, rfl⟩
      rw [← hcz] at hcell hst
      obtain ⟨v0, hv0⟩ : ∃ v0, wr.cell? ⟨w.heap.size, k, none⟩ = some v0 := ⟨_, (hrow.cellAt k (by omega)).trans (List.getElem?_eq_getElem (by simp; omega))⟩
      have hfr := hrow.frozenAt k
      have HS := hide hst
      have HB := hide (hbel.setCell (p := ⟨w.heap.size, k, none⟩) (Nat.le_refl _) (.int .u8 c))
      clear hcz hrow hst hsrc hc hz
      go_wp2
      go_roundw
      case rel => exact ⟨k + 1, by omega, by go_num, HS.out.1, HB.out⟩
      case measure => simp [intOf]; omega
    · obtain rfl : k = len := by omega
      clear hc
      have HR := hide hrow
      clear hrow
      go_wp2
      go_ret
      refine ⟨rfl, ?_, hbel⟩
      have := HR.out
      rw [List.take_of_length_le (by omega)] at this
      simpa using this

set_option maxHeartbeats 400000 in
theorem clone_empty (x : Addr) (cap : Nat) (w : World) :
    Calls Try.prog 9 #[.slice (some x) 0 cap] w fun e w' => e = .returned (.slice (some ⟨w.heap.size, 0, none⟩) 0 0) ∧ w'.ownsRow w.heap.size 5 1 (.slice (some ⟨w.heap.size, 0, none⟩) 0 0) 0 [] ∧ Below w.heap.size w w' := by
  obtain ⟨i0, hi, hz0, hz1, hz2⟩ := info_parts Try.info5
  have hnil := fun w' => Lib.run_eql_slice_nil (P := Try.prog) w' 22 5 (some x) 0 cap 0 0 Try.underlying22
  go_enter Try.func9, Try.ntmps9
  go_wp2_with (at_make; refine wpList_make_full _ rfl _ _ 22 rfl w.heap.size 5 i0 (.int .u8 0) 1 Try.underlying22 hi hz0 hz1 .i64 .i64 0 0 0 rfl rfl rfl rfl (by omega) (Nat.zero_le _) (Nat.le_refl _) ?_; intro w1 hown hgr)
  refine wp_loop_rounds 1 ?_
  rw [rounds_succ]
  go_wp2
  go_ret
  refine ⟨rfl, ?_, (Below.refl _ _).grown hgr (Nat.le_refl _) (by simp)⟩
  rw [show (Value.int .u8 0).cells = #[Value.int .u8 0] from rfl, toList_madeCells_one] at hown
  simpa using hown

/-- a slice of bytes that came in -/
def InRow (w : World) (a : Option Addr) (len cap : Nat) (zs : List Int) : Prop :=
  (a = none ∧ len = 0 ∧ cap = 0 ∧ zs = []) ∨
  ∃ x, a = some x ∧ len ≤ cap ∧ cap ≤ maxLen ∧ zs.length = len ∧ (∀ j, j < len → w.cell? (x.add j) = some (.int .u8 (zs.getD j 0))) ∧ ∀ c ∈ zs, 0 ≤ c ∧ c ≤ 255

/-- cloneBytes: the clone is the call's own, and reads as the source does; nil stays nil -/
theorem clone_any (a : Option Addr) (len cap : Nat) (zs : List Int) (w : World) (hl : len ≤ 1048576) (H : InRow w a len cap zs) :
    Calls Try.prog 9 #[.slice a len cap] w fun e w' => ∃ a' cap', e = .returned (.slice a' len cap') ∧ Owns w' w.heap.size a' len cap' zs ∧ Below w.heap.size w w' := by
  rcases H with ⟨rfl, rfl, rfl, rfl⟩ | ⟨x, rfl, h1, h2, h3, h4, h5⟩
  · refine (clone_nil w).mono ?_
    rintro e w' ⟨rfl, rfl⟩
    exact ⟨none, 0, rfl, ⟨World.ownsRow_nil _ _ _ _, by simp⟩, Below.refl _ _⟩
  · by_cases h0 : len = 0
    · subst h0
      obtain rfl : zs = [] := List.length_eq_zero_iff.1 h3
      refine (clone_empty x cap w).mono ?_
      rintro e w' ⟨rfl, hown, hbel⟩
      exact ⟨_, _, rfl, ⟨hown, by simp⟩, hbel⟩
    · obtain ⟨b, off, spot⟩ := x
      have hspot : spot = none := by simpa [Addr.add] using World.cell?_spot (h4 0 (by omega))
      subst hspot
      refine (clone_some b off len cap zs w h3 hl (fun j hj => by rw [← Addr.add_lit]; exact h4 j hj)).mono ?_
      rintro e w' ⟨rfl, hown, hbel⟩
      exact ⟨_, _, rfl, ⟨hown, h5⟩, hbel⟩

/-! ### hexadecimal digits -/
set_option maxHeartbeats 400000 in
theorem hex_any (c : Int) (w : World) (h0 : 0 ≤ c) (h1 : c ≤ 255) :
    Calls Try.prog 28 #[.int .u8 c] w fun e w' => e = .returned (.tuple #[.int .u8 (hexN c), .bool (isHex c)]) ∧ w = w' := by
  rcases (show (48 ≤ c ∧ c ≤ 57) ∨ (97 ≤ c ∧ c ≤ 102) ∨ (65 ≤ c ∧ c ≤ 70) ∨ c < 48 ∨ (57 < c ∧ c < 65) ∨ (70 < c ∧ c < 97) ∨ 102 < c by omega) with ⟨h2, h3⟩ | ⟨h2, h3⟩ | ⟨h2, h3⟩ | h2 | ⟨h2, h3⟩ | ⟨h2, h3⟩ | h2
  all_goals
    obtain ⟨n, hn⟩ : ∃ n, n = hexN c := ⟨_, rfl⟩
    obtain ⟨i, hi⟩ : ∃ i, i = isHex c := ⟨_, rfl⟩
    rw [← hn, ← hi]
    have HN := hide hn
    have HI := hide hi
    clear hn hi
    go_enter Try.func28, Try.ntmps28
    go_wp2
    go_ret2
    refine ⟨ret_two ?_ ?_, rfl⟩
    · rw [HN.out]; unfold hexN; repeat' split
      all_goals omega
    · rw [HI.out]; symm; simp [isHex]; omega

end Go.Proofs.Qxb6604321a
