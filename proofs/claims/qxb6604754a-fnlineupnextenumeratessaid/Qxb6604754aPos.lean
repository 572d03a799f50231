import Derived.Test.Qxb6604754aEnum
import Derived.Test.Qxb6604754aPair
namespace Go.Proofs.Qxb6604754a
open Go.RowKit

/-- a row of positions that grows -/
structure One (w wr : World) (a : Option Addr) (c n : Nat) (L : List Nat) : Prop where
  below : Gr w wr
  len : L.length = n
  r1 : wr.ownsRow w.heap.size 3 1 (.slice a n c) n (L.map fun p : Nat => Value.int .i64 p)
theorem One.start (w : World) : One w w none 0 0 [] := ⟨Gr.refl _, rfl, World.ownsRow_nil w _ 3 1⟩
theorem One.push {w wr w1 : World} {a : Option Addr} {c n : Nat} {L : List Nat} {p : Nat} {o : Obj} {v : Value} (h : One w wr a c n L)
    (hown : w1.ownsRow w.heap.size 3 1 v (n + 1) (L.map (fun p : Nat => Value.int .i64 p) ++ [.int .i64 p])) (hgr : (wr.alloc o).grownBy w1 (Value.slice a n c).ownBlock) : ∃ a1 c1, v = .slice a1 (n + 1) c1 ∧ One w w1 a1 c1 (n + 1) (L ++ [p]) := by
  obtain ⟨a1, c1, rfl⟩ := row_form hown
  refine ⟨a1, c1, rfl, ?_, by simp [h.len], by simpa using hown⟩
  exact Below.grown (h.below.alloc' o) hgr (h.below.alloc' o).size (fun k hk => ((h.r1.alloc o).lt k hk).1)
theorem One.kept {w wr w1 : World} {a : Option Addr} {c n : Nat} {L : List Nat} (h : One w wr a c n L) (g : Gr wr w1) : One w w1 a c n L := by
  refine ⟨h.below.trans g, h.len, h.r1.1, ?_⟩
  rcases h.r1.2 with hn | ⟨g', cap', cur, e, hb, hgg, rest⟩
  · exact .inl hn
  · refine .inr ⟨g', cap', cur, e, hb, ?_, rest⟩
    rw [g.block g' (Array.getElem?_eq_some_iff.1 hgg).1]
    exact hgg
/-- a slice of positions -/
structure IntsAt (w : World) (a : Option Addr) (n : Nat) (L : List Nat) : Prop where
  len : L.length = n
  at' : ∀ (i : Nat) x, L[i]? = some x → ∃ b o, a = some ⟨b, o, none⟩ ∧ w.cell? ⟨b, o + i, none⟩ = some (.int .i64 x)
theorem IntsAt.gr {w w' : World} {a : Option Addr} {n : Nat} {L : List Nat} (h : IntsAt w a n L) (g : Gr w w') : IntsAt w' a n L :=
  ⟨h.len, fun i x hx => by
    obtain ⟨b1, o1, h1, h2⟩ := h.at' i x hx
    exact ⟨b1, o1, h1, g.cell h2⟩⟩
theorem One.ints {w wr : World} {a : Option Addr} {c n : Nat} {L : List Nat} (h : One w wr a c n L) : IntsAt wr a n L :=
  ⟨h.len, fun i x hx => by
    obtain ⟨g1, e1, h1⟩ := own_at h.r1 (x := .int .i64 x) (by rw [List.getElem?_map, hx]; rfl)
    exact ⟨g1, 0, e1, h1⟩⟩

set_option maxHeartbeats 4000000 in
theorem positions_any (a b : Option Addr) (n m ca cb : Nat) (A C : List Slt) (bd : Bd) (w : World) (hn : n ≤ 4096) (hm : m ≤ 4096) (hA : SlotsAt w a n A) (hC : SlotsAt w b m C) :
    Calls Try.prog 12 #[.slice a n ca, .slice b m cb, .int .i64 bd.size, .float .f64 bd.longest, .float .f64 bd.now, .float .f64 bd.fin] w fun e w' => Gr w w' ∧ ∃ a' c' k L, e = .returned (.slice a' k c') ∧ IntsAt w' a' k L ∧ AdL bd (A ++ C) (A ++ C).length L := by
  obtain ⟨i3, hi3, hz3, hy3, hb3⟩ := info_parts Try.info3
  have HA := hide hA
  have HC := hide hC
  have lA := hA.len
  have lC := hC.len
  clear hA hC
  go_enter Try.func12, Try.ntmps12
  go_wp2
  go_loopw [13, 14] (fun ov pv wr => ∃ (p k c : Nat) (a' : Option Addr) (L : List Nat), p ≤ n ∧ k ≤ p ∧ ov = .slice a' k c ∧ pv = .int .i64 p ∧ Hid (One w wr a' c k L) ∧ Hid (AdL bd (A ++ C) p L)) (fun _ pv _ => n - (intOf pv).toNat)
  case atStart => exact ⟨0, 0, 0, none, [], Nat.zero_le _, Nat.le_refl _, rfl, rfl, One.start w, AdL.start _ _⟩
  case round =>
  obtain ⟨p, k, c, a', L, hp, hk, rfl, rfl, HO, HL⟩ := hrel
  by_cases hlt : p < n
  · obtain ⟨x, hx⟩ : ∃ x, A[p]? = some x := ⟨_, List.getElem?_eq_getElem (by omega)⟩
    have hx' : (A ++ C)[p]? = some x := by rw [List.getElem?_append_left (by omega)]; exact hx
    obtain ⟨b1, off, rfl, d1, d2, d3⟩ := (HA.out.gr HO.out.below).at' p x hx
    go_wp2_with fail
    refine (admitted_any bd x _).mono ?_
    rintro e2 w2 ⟨rfl, hg2⟩
    have HO2 := hide (HO.out.kept hg2)
    cases hb : (decide (0 ≤ x.1) && ad bd x.2) with
    | true =>
      have HL' := hide (HL.out.hit hx' hb)
      clear HL HO hx hx' d1 d2 d3 hg2 hb
      go_wp2_with (at_builtin; refine wpList_append_own_at _ rfl _ _ 30 rfl w.heap.size 3 i3 (.int .i64 0) 1 8 Try.underlying30 hi3 hz3 hy3 hb3 rfl (by decide) _ _ _ rfl (HO2.out.r1.alloc _) ⟨w2.heap.size, 0, none⟩ 1 1 [.int .i64 p] rfl rfl (cell_one_new _ _ _) (by simp [Value.oneCell']) (by unfold maxLen; omega) (by omega) (by have := HO2.out.below.size; simp; omega) ?_; intro v1 wh hown1 hgr1 hnl1 hat1; clear hnl1 hat1; obtain ⟨a3, c3, rfl, hH⟩ := HO2.out.push hown1 hgr1; have HH := hide hH; clear hown1 hgr1 hH)
      refine ⟨⟨p + 1, k + 1, _, _, _, by omega, by omega, rfl, by go_num, HH, HL'⟩, ?_⟩
      simp [intOf]
      omega
    | false =>
      have HL' := hide (HL.out.miss hx' hb)
      clear HL HO hx hx' d1 d2 d3 hg2 hb
      go_wp2
      refine ⟨⟨p + 1, k, _, _, _, by omega, by omega, rfl, by go_num, HO2, HL'⟩, ?_⟩
      simp [intOf]
      omega
  · obtain rfl : n = p := by omega
    clear hlt hp
    go_wp2
    go_loopw [13, 15] (fun ov pv wr => ∃ (p k c : Nat) (a' : Option Addr) (L : List Nat), p ≤ m ∧ k ≤ n + p ∧ ov = .slice a' k c ∧ pv = .int .i64 p ∧ Hid (One w wr a' c k L) ∧ Hid (AdL bd (A ++ C) (n + p) L)) (fun _ pv _ => m - (intOf pv).toNat)
    case atStart => exact ⟨0, k, c, a', L, Nat.zero_le _, hk, rfl, rfl, HO, HL⟩
    case round =>
    clear HO HL
    obtain ⟨p, k, c, a', L, hp, hk, rfl, rfl, HO, HL⟩ := hrel
    by_cases hlt : p < m
    · obtain ⟨x, hx⟩ : ∃ x, C[p]? = some x := ⟨_, List.getElem?_eq_getElem (by omega)⟩
      have hx' : (A ++ C)[n + p]? = some x := by rw [List.getElem?_append_right (by omega), lA, Nat.add_sub_cancel_left]; exact hx
      obtain ⟨b1, off, rfl, d1, d2, d3⟩ := (HC.out.gr HO.out.below).at' p x hx
      obtain ⟨np, hnp⟩ : ∃ np : Nat, (n : Int) + p = np := ⟨n + p, by omega⟩
      go_wp2_with fail
      refine (admitted_any bd x _).mono ?_
      rintro e2 w2 ⟨rfl, hg2⟩
      have HO2 := hide (HO.out.kept hg2)
      cases hb : (decide (0 ≤ x.1) && ad bd x.2) with
      | true =>
        have HL1 := HL.out.hit hx' hb
        rw [show L ++ [n + p] = L ++ [np] by rw [show n + p = np by omega]] at HL1
        have HL' := hide HL1
        clear HL HO hx hx' d1 d2 d3 hg2 hb HL1
        go_wp2_with (at_builtin; refine wpList_append_own_at _ rfl _ _ 30 rfl w.heap.size 3 i3 (.int .i64 0) 1 8 Try.underlying30 hi3 hz3 hy3 hb3 rfl (by decide) _ _ _ rfl (HO2.out.r1.alloc _) ⟨w2.heap.size, 0, none⟩ 1 1 [.int .i64 np] rfl rfl (cell_one_new _ _ _) (by simp [Value.oneCell']) (by unfold maxLen; omega) (by omega) (by have := HO2.out.below.size; simp; omega) ?_; intro v1 wh hown1 hgr1 hnl1 hat1; clear hnl1 hat1; obtain ⟨a3, c3, rfl, hH⟩ := HO2.out.push hown1 hgr1; have HH := hide hH; clear hown1 hgr1 hH)
        refine ⟨⟨p + 1, k + 1, _, _, _, by omega, by omega, rfl, by go_num, HH, HL'⟩, ?_⟩
        simp [intOf]
        omega
      | false =>
        have HL' := hide (HL.out.miss hx' hb)
        clear HL HO hx hx' d1 d2 d3 hg2 hb
        go_wp2
        refine ⟨⟨p + 1, k, _, _, _, by omega, by omega, rfl, by go_num, HO2, HL'⟩, ?_⟩
        simp [intOf]
        omega
    · obtain rfl : m = p := by omega
      go_wp2
      go_ret
      exact ⟨HO.out.below, _, _, _, L, rfl, HO.out.ints, by rw [List.length_append, lA, lC]; exact HL.out⟩

end Go.Proofs.Qxb6604754a
