import Derived.Test.Qxb6604754aPair
namespace Go.Proofs.Qxb6604754a
open Go.RowKit

/-- an answer of a size guard -/
def Ans (e : Ending) : Prop := ∃ r : Bool, e = .returned (.bool r)
theorem ans_any (r : Bool) : Ans (.returned (.bool r)) := ⟨r, rfl⟩

set_option maxHeartbeats 1000000 in
theorem bytes5_any (a b : Option Addr) (n m ca cb : Nat) (x1 x2 x3 x4 x5 : Value) (w : World) (hn : n ≤ maxLen) (hm : m ≤ maxLen) :
    Calls Try.prog 5 #[.slice a n ca, .slice b m cb, x1, x2, x3, x4, x5] w fun e w' => Ans e ∧ w' = w := by
  unfold maxLen at hn hm
  by_cases h1 : n ≤ 1048576
  · by_cases h2 : m ≤ 1048576
    · by_cases h3 : n + m ≤ 1048576
      · go_enter Try.func5, Try.ntmps5
        go_wp2
        go_ret
        exact ⟨ans_any _, rfl⟩
      · go_enter Try.func5, Try.ntmps5
        go_wp2
        go_ret
        exact ⟨ans_any _, rfl⟩
    · go_enter Try.func5, Try.ntmps5
      go_wp2
      go_ret
      exact ⟨ans_any _, rfl⟩
  · go_enter Try.func5, Try.ntmps5
    go_wp2
    go_ret
    exact ⟨ans_any _, rfl⟩
set_option maxHeartbeats 1000000 in
theorem bytes11_any (a b : Option Addr) (n m ca cb : Nat) (x1 x2 x3 x4 : Value) (w : World) (hn : n ≤ maxLen) (hm : m ≤ maxLen) :
    Calls Try.prog 11 #[.slice a n ca, .slice b m cb, x1, x2, x3, x4] w fun e w' => Ans e ∧ w' = w := by
  unfold maxLen at hn hm
  by_cases h1 : n ≤ 1048576
  · by_cases h2 : m ≤ 1048576
    · by_cases h3 : n + m ≤ 1048576
      · go_enter Try.func11, Try.ntmps11
        go_wp2
        go_ret
        exact ⟨ans_any _, rfl⟩
      · go_enter Try.func11, Try.ntmps11
        go_wp2
        go_ret
        exact ⟨ans_any _, rfl⟩
    · go_enter Try.func11, Try.ntmps11
      go_wp2
      go_ret
      exact ⟨ans_any _, rfl⟩
  · go_enter Try.func11, Try.ntmps11
    go_wp2
    go_ret
    exact ⟨ans_any _, rfl⟩

theorem ge_zero (w : Nat) : fge D w 0 = true → dom w := by
  intro h
  have := (fge_iff D hD w 0).1 h
  exact ⟨this.1, this.2.2⟩

set_option maxHeartbeats 1000000 in
theorem indom_any (a : Option Addr) (n c : Nat) (sl : List Slt) (w : World) (hn : n ≤ 65536) (h : SlotsAt w a n sl) :
    Calls Try.prog 6 #[.slice a n c] w fun e w' => w' = w ∧ ∃ r : Bool, e = .returned (.bool r) ∧ (r = true → Dm sl) := by
  have HC := hide h
  have hlen := h.len
  clear h
  go_enter Try.func6, Try.ntmps6
  go_wp2
  go_loopw [3] (fun i wr => ∃ k : Nat, k ≤ n ∧ i = .int .i64 k ∧ wr = w ∧ Hid (∀ (p : Nat) x, sl[p]? = some x → p < k → 0 ≤ x.1 → dom x.2.2)) (fun i _ => n - (intOf i).toNat)
  case atStart => exact ⟨0, Nat.zero_le _, rfl, rfl, fun p x _ h _ => by omega⟩
  case round =>
  obtain ⟨k, hk, rfl, rfl, HI⟩ := hrel
  by_cases hlt : k < n
  · obtain ⟨x, hx⟩ : ∃ x, sl[k]? = some x := ⟨_, List.getElem?_eq_getElem (by omega)⟩
    obtain ⟨b, off, rfl, d1, d2, d3⟩ := HC.out.at' k x hx
    by_cases hj : 0 ≤ x.1
    · cases hf : fge D x.2.2 0 with
      | true =>
        have hf' : (FloatKind.f64.format.order x.2.2 0 == some Ordering.gt || FloatKind.f64.format.order x.2.2 0 == some Ordering.eq) = true := hf
        have HI' := hide (fun (p : Nat) (y : Slt) (h1 : sl[p]? = some y) (h2 : p < k + 1) (h3 : 0 ≤ y.1) => show dom y.2.2 from (by
          by_cases e : p = k
          · subst e
            rw [hx] at h1
            cases h1
            exact ge_zero _ hf
          · exact HI.out p y h1 (by omega) h3))
        clear HI hx
        go_wp2
        refine ⟨⟨k + 1, by omega, by go_num, trivial, HI'⟩, ?_⟩
        simp [intOf]
        omega
      | false =>
        have hf' : (FloatKind.f64.format.order x.2.2 0 == some Ordering.gt || FloatKind.f64.format.order x.2.2 0 == some Ordering.eq) = false := hf
        clear HI hx
        go_wp2
        go_ret
        exact ⟨rfl, false, rfl, fun h => by cases h⟩
    · have HI' := hide (fun (p : Nat) (y : Slt) (h1 : sl[p]? = some y) (h2 : p < k + 1) (h3 : 0 ≤ y.1) => show dom y.2.2 from (by
        by_cases e : p = k
        · subst e
          rw [hx] at h1
          cases h1
          exact absurd h3 hj
        · exact HI.out p y h1 (by omega) h3))
      clear HI hx
      go_wp2
      refine ⟨⟨k + 1, by omega, by go_num, trivial, HI'⟩, ?_⟩
      simp [intOf]
      omega
  · obtain rfl : k = n := by omega
    go_wp2
    go_ret
    exact ⟨rfl, true, rfl, fun _ p x hx h => HI.out p x hx (by have := (List.getElem?_eq_some_iff.1 hx).1; omega) h⟩

/-- the law that the library lacks: a float is stored as any one cell is -/
theorem run_store_float (P : Program) (w : World) (a : Addr) (m : Mode) (k : FloatKind) (b : Nat) : (store a (.float k b) m).run P w = stored P w a (.float k b) m := run_store P w a _ m rfl
attribute [local go_sem] run_store_float

/-! ### the makers -/
theorem Try.size46 : (Try.prog.info? 46).map (·.size) = some 3 := by kernel_rfl
theorem Try.size44 : (Try.prog.info? 44).map (·.size) = some 2 := by kernel_rfl
theorem Try.size35 : (Try.prog.info? 35).map (·.size) = some 11 := by kernel_rfl
set_option maxHeartbeats 1000000 in
theorem mkSlot_any (x : Slt) (w : World) : Calls Try.prog 13 #[.int .i64 x.1, .int .i64 x.2.1, .float .f64 x.2.2] w fun e w' => e = .returned (.agg #[.int .i64 x.1, .int .i64 x.2.1, .float .f64 x.2.2]) ∧ Gr w w' := by
  go_enter Try.func13, Try.ntmps13
  go_wp2
  exact bodyPost_ret (results_cell_row rfl _ _ w.heap.size 46 _ (0, 0) _ rfl (heap_alloc_new _ _) Try.underlying46 rfl Try.size46) rfl ⟨rfl, Gr.alloc _ _⟩
set_option maxHeartbeats 1000000 in
theorem mkStep_any (x : Job) (w : World) : Calls Try.prog 17 #[.int .i64 x.1, .float .f64 x.2] w fun e w' => e = .returned (.agg #[.int .i64 x.1, .float .f64 x.2]) ∧ Gr w w' := by
  go_enter Try.func17, Try.ntmps17
  go_wp2
  exact bodyPost_ret (results_cell_row rfl _ _ w.heap.size 44 _ (0, 0) _ rfl (heap_alloc_new _ _) Try.underlying44 rfl Try.size44) rfl ⟨rfl, Gr.alloc _ _⟩
set_option maxHeartbeats 1000000 in
theorem newQueue_any (a ta : Option Addr) (n c m tc : Nat) (cnt : Int) (first : Nat) (w : World) : Calls Try.prog 18 #[.slice a n c, .int .i64 cnt, .int .i64 n, .int .i64 first, .slice ta m tc] w fun e w' => e = .returned (qval a n c cnt first ta m tc) ∧ Gr w w' := by
  go_enter Try.func18, Try.ntmps18
  go_wp2
  exact bodyPost_ret (results_cell_row rfl _ _ w.heap.size 35 _ (0, 0) _ rfl (heap_alloc_new _ _) Try.underlying35 rfl Try.size35) rfl ⟨rfl, Gr.alloc _ _⟩

end Go.Proofs.Qxb6604754a
