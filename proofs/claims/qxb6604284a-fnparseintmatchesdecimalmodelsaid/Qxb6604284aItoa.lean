import Derived.Test.Qxb6604284aParse
import Derived.Test.Qxb6604284aItoaPlain
namespace Go.Proofs.Qxb6604284a
open Go.RowKit

theorem Try.info5 : (Try.prog.info? 5).map (fun i => (i.zero, i.size, i.bytes)) = some (some (.int .u8 0), 1, 1) := by kernel_rfl

/-- zzItoa's buffer, in the block behind w's: its last cells hold ds -/
def Buf (w wr : World) (i : Nat) (ds : List Int) : Prop :=
  Below w.heap.size w wr ∧ wr.heap.size = w.heap.size + 1 ∧ i + ds.length = 20 ∧ (∀ j, j < 20 → wr.frozen? ⟨w.heap.size, j, none⟩ = false) ∧
  (∀ j, j < 20 → ∃ v, wr.cell? ⟨w.heap.size, j, none⟩ = some (.int .u8 v)) ∧ (∀ j, j < ds.length → wr.cell? ⟨w.heap.size, i + j, none⟩ = some (.int .u8 (ds.getD j 0)))

theorem Buf.step {w wr : World} {i : Nat} {ds : List Int} (h : Buf w wr (i + 1) ds) (c : Int) : Buf w (wr.setCell ⟨w.heap.size, i, none⟩ (.int .u8 c)) i (c :: ds) := by
  obtain ⟨h1, h2, h3, h4, h5, h6⟩ := h
  obtain ⟨v0, hv0⟩ := h5 i (by omega)
  refine ⟨h1.setCell (Nat.le_refl _) _, by simpa using h2, by simp; omega, fun j hj => by simpa using h4 j hj, fun j hj => ?_, fun j hj => ?_⟩
  · by_cases e : j = i
    · subst e; exact ⟨c, World.cell?_setCell_same _ _ _ hv0⟩
    · rw [World.cell?_setCell_other _ _ _ _ (by simp)]; exact h5 j hj
  · cases j with
    | zero => simpa using World.cell?_setCell_same _ _ _ hv0
    | succ j =>
      rw [World.cell?_setCell_other _ _ _ _ (by simp)]
      have := h6 j (by simpa using hj)
      rw [show i + (j + 1) = i + 1 + j by omega, this]; simp

theorem buf_first (w : World) (c : Int) : Buf w (w.alloc (Obj.cells #[Value.int .u8 0, Value.int .u8 0, Value.int .u8 0, Value.int .u8 0, Value.int .u8 0, Value.int .u8 0, Value.int .u8 0, Value.int .u8 0, Value.int .u8 0, Value.int .u8 0, Value.int .u8 0, Value.int .u8 0, Value.int .u8 0, Value.int .u8 0, Value.int .u8 0, Value.int .u8 0, Value.int .u8 0, Value.int .u8 0, Value.int .u8 0, Value.int .u8 c] 37)) 19 [c] := by
  refine ⟨(Below.refl _ _).alloc (Nat.le_refl _) _, by simp, by simp, fun j hj => by simp, fun j hj => ?_, fun j hj => ?_⟩
  · have : j = 0 ∨ j = 1 ∨ j = 2 ∨ j = 3 ∨ j = 4 ∨ j = 5 ∨ j = 6 ∨ j = 7 ∨ j = 8 ∨ j = 9 ∨ j = 10 ∨ j = 11 ∨ j = 12 ∨ j = 13 ∨ j = 14 ∨ j = 15 ∨ j = 16 ∨ j = 17 ∨ j = 18 ∨ j = 19 := by omega
    rcases this with rfl | rfl | rfl | rfl | rfl | rfl | rfl | rfl | rfl | rfl | rfl | rfl | rfl | rfl | rfl | rfl | rfl | rfl | rfl | rfl <;> simp
  · obtain rfl : j = 0 := by simpa using hj
    simp

theorem Try.len37 : Try.prog.arrayLen 37 = 20 := by kernel_rfl
theorem Try.elem37 : Try.prog.elem 37 = 5 := by kernel_rfl
theorem Try.under37 : Try.prog.underlying 37 = some (.array (Try.prog.arrayLen 37) (Try.prog.elem 37)) := by kernel_rfl
theorem Try.sizeOf5 (w : World) : Sem.run Try.prog (sizeOf 5) w = .ok 1 w := by kernel_rfl
theorem slice_buf (B k n : Nat) (hk : k + n = 20) (hn : 1 ≤ n) (w : World) : Sem.run Try.prog (Instr.sliceAt 37 (.pointer (some ⟨B, 0, none⟩)) (some (.int .i64 k)) none none) w = .ok (.slice (some ⟨B, k, none⟩) n n) w := by
  rw [run_sliceAt_array_l w 37 _ Try.under37 .i64 k (by omega) (by rw [Try.len37]; omega), Try.elem37, Try.sizeOf5, Try.len37]
  simp only [Result.andThen, slicedAt, Int.toNat_natCast, Nat.mul_one]
  rw [if_neg (by omega), show 20 - k = n by omega]
  simp [Addr.add]
  omega

/-- what an owned row of bytes reads as -/
theorem bytes_of_owned {w : World} {base g n cap : Nat} {zs : List Int} (h : w.ownsRow base 5 1 (.slice (some ⟨g, 0, none⟩) n cap) n (zs.map (Value.int .u8))) (hb : ∀ c ∈ zs, 0 ≤ c ∧ c ≤ 255) : Bytes w (some ⟨g, 0, none⟩) n cap zs := by
  have hl : zs.length = n := by simpa using h.1
  have hn : n ≤ cap ∧ cap ≤ maxLen := by
    rcases h.2 with ⟨h', _⟩ | ⟨g', cap', cur, h', _, _, h1, h2, _⟩
    · simp at h'
    · simp at h'; obtain ⟨_, rfl⟩ := h'; exact ⟨h1, h2⟩
  refine ⟨hl, hn.1, hn.2, hb, .inr ⟨g, 0, rfl, fun j hj => ?_⟩⟩
  rw [Nat.zero_add, h.cellAt j (by omega)]
  simp [hl, hj]
theorem laid_byte {U u : Int} {ds : List Int} (h : Laid U u ds) : ∀ c ∈ ds, 0 ≤ c ∧ c ≤ 255 := fun c hc => by
  have : 48 ≤ c ∧ c ≤ 57 := by simpa [isDig] using h.2.2.1 c hc
  omega
theorem news_at {w w1 : World} {b k : Nat} {ds : List Int} (hc : ∀ j, j < ds.length → w.cell? ⟨b, k + j, none⟩ = some (.int .u8 (ds.getD j 0))) (hw : ∀ a v, a.block = b → w.cell? a = some v → w1.cell? a = some v) :
    ∀ j u, (ds.map (Value.int .u8))[j]? = some u → w1.cell? ((⟨b, k, none⟩ : Addr).add j) = some u := by
  intro j u hu
  have hj : j < ds.length := by
    have := (List.getElem?_eq_some_iff.1 hu).1
    simpa using this
  have e : (ds.map (Value.int .u8))[j]? = some (.int .u8 (ds.getD j 0)) := by simp [hj]
  rw [e] at hu
  rw [Addr.add_lit, ← hu]
  exact hw _ _ rfl (hc j hj)

set_option maxHeartbeats 400000 in
theorem itoa_pos (x : Int) (w : World) (h1 : 0 ≤ x) (h2 : x ≤ 9223372036854775807) :
    Calls Try.prog 19 #[.int .i64 x] w fun e w' => ∃ g n, e = .returned (.slice (some ⟨g, 0, none⟩) n 21) ∧ ∃ zs, Bytes w' (some ⟨g, 0, none⟩) n 21 zs ∧ Laid x 0 zs ∧ Below w.heap.size w w' := by
  obtain ⟨i0, hi, hz0, hz1, hz2⟩ := info_parts Try.info5
  go_enter Try.func19, Try.ntmps19
  go_wp2
  go_loopw [3, 5] (fun u i wr => ∃ (k : Nat) (uu : Int) (ds : List Int), i = .int .i64 k ∧ u = .int .u64 uu ∧ Laid x uu ds ∧ uu ≤ x ∧ Buf w wr k ds) (fun u _ _ => (intOf u).toNat)
  case atStart => exact ⟨19, _, _, rfl, rfl, laid_first x h1, by omega, buf_first w _⟩
  case round =>
    obtain ⟨k, uu, ds, rfl, rfl, hlaid, hux, hbuf⟩ := hrel
    have hu0 := hlaid.1
    by_cases hu : 0 < uu
    · have HL := hide (laid_step x uu ds hlaid hu (by omega))
      have hl := laid_len x uu ds hlaid hu (by omega)
      obtain ⟨i, rfl⟩ : ∃ i, k = i + 1 := ⟨k - 1, by have := hbuf.2.2.1; omega⟩
      have hi20 : i < 20 := by have := hbuf.2.2.1; omega
      have HB := hide (hbuf.step (48 + uu % 10))
      obtain ⟨v0, hcell⟩ := hbuf.2.2.2.2.1 i hi20
      have hfr := hbuf.2.2.2.1 i hi20
      have m1 : 0 ≤ uu % 10 := Int.emod_nonneg _ (by omega)
      have m2 : uu % 10 < 10 := Int.emod_lt_of_pos _ (by omega)
      clear hlaid hbuf
      go_wp2
      go_roundw
      case rel => exact ⟨i, _, _, rfl, rfl, HL.out, by omega, HB.out⟩
      case measure => simp [intOf]; omega
    · obtain rfl : uu = 0 := by omega
      obtain ⟨hbel, hsz, hk20, -, -, hcells⟩ := hbuf
      have hl := hlaid.2.2.2
      have HL := hide hlaid
      have hsl := slice_buf w.heap.size k ds.length hk20 hl.1
      have HC := hide hcells
      clear hlaid hk20 hcells
      have hlen := hl.2
      go_wp2_with (first
        | (at_make; refine wpList_make_own _ rfl _ _ 22 rfl (w.heap.size + 1) 5 i0 (.int .u8 0) 1 Try.underlying22 hi hz0 hz1 .i64 .i64 21 21 rfl rfl rfl (by rw [hz2]; omega) (by unfold maxLen; omega) (by omega) ?_; intro w1 hown hgr; rw [hsz] at hown)
        | (at_builtin; refine wpList_append_fits w1 rfl (.tmp 39) (.tmp 41) 22 rfl (w.heap.size + 1) 5 i0 1 Try.underlying22 hi hz1 (w.heap.size + 1) 0 21 [] rfl hown ⟨w.heap.size, k, none⟩ ds.length ds.length (ds.map (Value.int .u8)) rfl (by simp) (news_at HC.out fun a v _ h => hgr.cell h (by simp)) (ints_oneCell _ _) (by omega) ?_; intro w2 hown2 hgr2))
      go_ret
      refine ⟨w.heap.size + 1, ds.length, rfl, ds, bytes_of_owned (by simpa using hown2) (laid_byte HL.out), HL.out, ?_⟩
      exact (hbel.grown hgr (by omega) (by simp)).grown hgr2 (by have := hgr.size; omega) (by simp)

theorem neg_wrap (x : Int) (h1 : -9223372036854775808 ≤ x) (h2 : x < 0) : IntKind.u64.wrap (-IntKind.u64.wrap x) = -x := by
  go_arith

set_option maxHeartbeats 400000 in
theorem itoa_neg (x : Int) (w : World) (h1 : -9223372036854775808 ≤ x) (h2 : x < 0) :
    Calls Try.prog 19 #[.int .i64 x] w fun e w' => ∃ g n, e = .returned (.slice (some ⟨g, 0, none⟩) n 21) ∧ ∃ zs, Bytes w' (some ⟨g, 0, none⟩) n 21 (45 :: zs) ∧ Laid (-x) 0 zs ∧ Below w.heap.size w w' := by
  obtain ⟨i0, hi, hz0, hz1, hz2⟩ := info_parts Try.info5
  obtain ⟨U, hU⟩ : ∃ U, U = -x := ⟨_, rfl⟩
  have hneg : IntKind.u64.wrap (-IntKind.u64.wrap x) = U := by rw [neg_wrap x h1 h2, hU]
  have HU := hide hU
  have hU1 : 0 < U := by omega
  have hU2 : U ≤ 9223372036854775808 := by omega
  rw [← hU]
  clear hU
  go_enter Try.func19, Try.ntmps19
  go_wp2
  go_loopw [3, 5] (fun u i wr => ∃ (k : Nat) (uu : Int) (ds : List Int), i = .int .i64 k ∧ u = .int .u64 uu ∧ Laid U uu ds ∧ uu ≤ U ∧ Buf w wr k ds) (fun u _ _ => (intOf u).toNat)
  case atStart => exact ⟨19, _, _, rfl, rfl, laid_first U (by omega), by omega, buf_first w _⟩
  case round =>
    obtain ⟨k, uu, ds, rfl, rfl, hlaid, hux, hbuf⟩ := hrel
    have hu0 := hlaid.1
    by_cases hu : 0 < uu
    · have HL := hide (laid_step U uu ds hlaid hu (by omega))
      have hl := laid_len U uu ds hlaid hu (by omega)
      obtain ⟨i, rfl⟩ : ∃ i, k = i + 1 := ⟨k - 1, by have := hbuf.2.2.1; omega⟩
      have hi20 : i < 20 := by have := hbuf.2.2.1; omega
      have HB := hide (hbuf.step (48 + uu % 10))
      obtain ⟨v0, hcell⟩ := hbuf.2.2.2.2.1 i hi20
      have hfr := hbuf.2.2.2.1 i hi20
      have m1 : 0 ≤ uu % 10 := Int.emod_nonneg _ (by omega)
      have m2 : uu % 10 < 10 := Int.emod_lt_of_pos _ (by omega)
      clear hlaid hbuf
      go_wp2
      go_roundw
      case rel => exact ⟨i, _, _, rfl, rfl, HL.out, by omega, HB.out⟩
      case measure => simp [intOf]; omega
    · obtain rfl : uu = 0 := by omega
      obtain ⟨hbel, hsz, hk20, -, -, hcells⟩ := hbuf
      have hl := hlaid.2.2.2
      have HL := hide hlaid
      have hsl := slice_buf w.heap.size k ds.length hk20 hl.1
      have HC := hide hcells
      clear hlaid hk20 hcells
      have hlen := hl.2
      go_wp2_with (first
        | (at_make; refine wpList_make_own _ rfl _ _ 22 rfl (w.heap.size + 1) 5 i0 (.int .u8 0) 1 Try.underlying22 hi hz0 hz1 .i64 .i64 21 21 rfl rfl rfl (by rw [hz2]; omega) (by unfold maxLen; omega) (by omega) ?_; intro w1 hown hgr; rw [hsz] at hown)
        | (at_builtin; refine wpList_append_fits _ rfl (.tmp 36) (.tmp 37) 22 rfl (w.heap.size + 1) 5 i0 1 Try.underlying22 hi hz1 (w.heap.size + 1) 0 21 [] rfl (hown.alloc _) ⟨w1.heap.size, 0, none⟩ 1 1 [.int .u8 45] rfl rfl (cell_one_new _ _ _) (by simp [Value.oneCell']) (by omega) ?_; intro w2 hown2 hgr2; rw [Nat.zero_add, List.nil_append] at hown2)
        | (at_builtin; refine wpList_append_fits w2 rfl (.tmp 39) (.tmp 41) 22 rfl (w.heap.size + 1) 5 i0 1 Try.underlying22 hi hz1 (w.heap.size + 1) 1 21 [.int .u8 45] rfl hown2 ⟨w.heap.size, k, none⟩ ds.length ds.length (ds.map (Value.int .u8)) rfl (by simp) (news_at HC.out fun a v e h => hgr2.cell ((World.grownBy_alloc w1 _ none).cell (hgr.cell h (by simp)) (by simp)) (by simp [e])) (ints_oneCell _ _) (by omega) ?_; intro w3 hown3 hgr3))
      go_ret
      refine ⟨w.heap.size + 1, 1 + ds.length, rfl, ds, bytes_of_owned (zs := 45 :: ds) (by simpa using hown3) ?_, HL.out, ?_⟩
      · intro c hc
        rcases List.mem_cons.1 hc with rfl | hc
        · omega
        · exact laid_byte HL.out c hc
      · have z1 := hgr.size
        have z2 := hgr2.size
        simp at z2
        exact (((hbel.grown hgr (by omega) (by simp)).alloc (by omega) _).grown hgr2 (by simp; omega) (by simp)).grown hgr3 (by omega) (by simp)

end Go.Proofs.Qxb6604284a
