import Derived.Test.Qxb6604754aNext
namespace Go.Proofs.Qxb6604754a
open Go.RowKit

theorem adP_lt {b : Bd} {sl : List Slt} {p : Nat} (h : adP b sl p) : p < sl.length := by
  obtain ⟨x, h1, -⟩ := h
  exact (List.getElem?_eq_some_iff.1 h1).1
theorem isNext_left {b : Bd} {A C : List Slt} {pos : Int} {q : Nat} (h : IsNext b A pos q) : IsNext b (A ++ C) pos q := by
  rcases h with ⟨e, -⟩ | ⟨q', e, h1, h2, h3⟩
  · omega
  · have hq := adP_lt h2
    refine .inr ⟨q', e, h1, (adP_append b A C q').2 (.inl ⟨hq, h2⟩), fun p h4 h5 h6 => ?_⟩
    rcases (adP_append b A C p).1 h6 with ⟨_, h7⟩ | ⟨h7, _⟩
    · exact h3 p h4 h5 h7
    · omega
theorem isNext_right {b : Bd} {A C : List Slt} {pos pb r : Int} (hA : ∀ p : Nat, pos < p → ¬ adP b A p) (hpb : ∀ p : Nat, pb < p ↔ pos < (p : Int) + A.length) (h : IsNext b C pb r) :
    IsNext b (A ++ C) pos (if 0 ≤ r then r + A.length else -1) := by
  rcases h with ⟨e, h1⟩ | ⟨q, e, h1, h2, h3⟩
  · rw [if_neg (by omega)]
    refine .inl ⟨rfl, fun p h4 h6 => ?_⟩
    rcases (adP_append b A C p).1 h6 with ⟨_, h7⟩ | ⟨h8, h7⟩
    · exact hA p h4 h7
    · exact h1 (p - A.length) ((hpb _).2 (by omega)) h7
  · rw [if_pos (by omega)]
    refine .inr ⟨q + A.length, by omega, by have := (hpb q).1 h1; omega, (adP_append b A C _).2 (.inr ⟨by omega, by rwa [Nat.add_sub_cancel]⟩), fun p h4 h5 h6 => ?_⟩
    rcases (adP_append b A C p).1 h6 with ⟨_, h7⟩ | ⟨h8, h7⟩
    · exact hA p h4 h7
    · exact h3 (p - A.length) ((hpb _).2 (by omega)) (by omega) h7
theorem isNext_sign {b : Bd} {sl : List Slt} {pos r : Int} (h : IsNext b sl pos r) : (r = -1 ∧ ∀ p : Nat, pos < p → ¬ adP b sl p) ∨ ∃ q : Nat, r = q ∧ q < sl.length := by
  rcases h with ⟨e, h1⟩ | ⟨q, e, h1, h2, h3⟩
  · exact .inl ⟨e, h1⟩
  · exact .inr ⟨q, e, adP_lt h2⟩

set_option maxRecDepth 10000 in
set_option maxHeartbeats 4000000 in
theorem line_any (lb : Nat) (bd : Bd) (A C : List Slt) (dA fA dC fC : Nat) (TA TC : List (List Job)) (pos : Int) (w : World) (hA : QAt w lb 0 A fA TA) (hC : QAt w lb 11 C fC TC) (kA : QOk A dA fA TA) (kC : QOk C dC fC TC) (hp1 : -9223372036854775808 ≤ pos) (hp2 : pos < 9223372036854775807) (lA : A.length ≤ 4096) (lC : C.length ≤ 4096) :
    Calls Try.prog 19 #[.pointer (some ⟨lb, 0, none⟩), .int .i64 pos, .agg #[.int .i64 bd.size, .float .f64 bd.longest, .float .f64 bd.now, .float .f64 bd.fin]] w fun e w' => Gr w w' ∧ ∃ r : Int, e = .returned (.int .i64 r) ∧ IsNext bd (A ++ C) pos r := by
  obtain ⟨g1, n0, n1, n2, n3⟩ := box4 w (.int .i64 bd.size) (.float .f64 bd.longest) (.float .f64 bd.now) (.float .f64 bd.fin) 62
  obtain ⟨w1, hw⟩ : ∃ w1, w.alloc (Obj.cells #[.int .i64 bd.size, .float .f64 bd.longest, .float .f64 bd.now, .float .f64 bd.fin] 62) = w1 := ⟨_, rfl⟩
  rw [hw] at g1 n0 n1 n2 n3
  have HA := hide (hA.gr g1)
  have HC := hide (hC.gr g1)
  have HG := hide g1
  have HKA := hide kA
  have HKC := hide kC
  obtain ⟨sa, sc, hs, -⟩ := HA.out.slots
  obtain ⟨n, hn⟩ : ∃ n, A.length = n := ⟨_, rfl⟩
  rw [hn] at hs lA
  rw [Nat.zero_add] at hs
  clear hA hC kA kC g1
  by_cases c1 : pos < n
  · have hwr : IntKind.i64.wrap ((n : Int) - 1 - n) = -1 := by
      rw [show (n : Int) - 1 - n = -1 by omega]
      decide
    go_enter Try.func19, Try.ntmps19
    go_wp2_with fail
    go_region_with (first | (go_at_call 20; refine (next_any lb 0 bd A dA fA TA pos _ (HA.out.gr (by exact (Gr.refl _).drew)) HKA.out hp1 hp2).mono ?_; rintro e2 w2 ⟨hg2, r, rfl, hX⟩))
    have HG2 := hide (((Gr.refl w1).drew).trans hg2)
    clear hg2
    rcases isNext_sign hX with ⟨rfl, hno⟩ | ⟨q, rfl, hq⟩
    · have HNo := hide hno
      have m0 := HG2.out.cell n0
      have m1 := HG2.out.cell n1
      have m2 := HG2.out.cell n2
      have m3 := HG2.out.cell n3
      clear hX hno n0 n1 n2 n3
      go_wp2_with fail
      go_region_with (first | (go_at_call 20; refine (next_any lb 11 bd C dC fC TC _ _ (HC.out.gr (by exact HG2.out.drew)) HKC.out (by omega) (by omega)).mono ?_; rintro e3 w3 ⟨hg3, r, rfl, hX⟩))
      have HG3 := hide (HG2.out.drew.trans hg3)
      have hY := isNext_right HNo.out (by intro p; omega) hX
      rw [hn] at hY
      rcases isNext_sign hX with ⟨rfl, hno⟩ | ⟨q, rfl, hq⟩
      · clear hX hno hg3
        rw [if_neg (by omega)] at hY
        have HY := hide hY
        clear hY
        go_wp2
        go_ret
        exact ⟨HG.out.trans HG3.out, _, rfl, HY.out⟩
      · clear hX hg3
        rw [if_pos (by omega)] at hY
        have HY := hide hY
        clear hY
        go_wp2
        go_ret
        exact ⟨HG.out.trans HG3.out, _, rfl, HY.out⟩
    · have HY := hide (isNext_left (C := C) hX)
      clear hX
      go_wp2
      go_ret
      exact ⟨HG.out.trans HG2.out, _, rfl, HY.out⟩
  · have hwr : IntKind.i64.wrap (pos - n) = pos - n := by rw [IntKind.wrap_i64]; omega
    go_enter Try.func19, Try.ntmps19
    go_wp2_with fail
    go_region_with (first | (go_at_call 20; refine (next_any lb 11 bd C dC fC TC _ _ (HC.out.gr (by exact (Gr.refl _).drew)) HKC.out (by omega) (by omega)).mono ?_; rintro e3 w3 ⟨hg3, r, rfl, hX⟩))
    have HG3 := hide (((Gr.refl w1).drew).trans hg3)
    have hY := isNext_right (A := A) (pos := pos) (fun p h1 h2 => by have := adP_lt h2; omega) (by intro p; omega) hX
    rw [hn] at hY
    rcases isNext_sign hX with ⟨rfl, hno⟩ | ⟨q, rfl, hq⟩
    · clear hX hno hg3
      rw [if_neg (by omega)] at hY
      have HY := hide hY
      clear hY
      go_wp2
      go_ret
      exact ⟨HG.out.trans HG3.out, _, rfl, HY.out⟩
    · clear hX hg3
      rw [if_pos (by omega)] at hY
      have HY := hide hY
      clear hY
      go_wp2
      go_ret
      exact ⟨HG.out.trans HG3.out, _, rfl, HY.out⟩

/-- a queue as a value -/
def qval (a : Option Addr) (n c : Nat) (cnt : Int) (first : Nat) (ta : Option Addr) (m tc : Nat) : Value :=
  .agg #[.slice none 0 0, .slice none 0 0, .slice a n c, .slice none 0 0, .int .i64 cnt, .int .i64 n, .int .i64 first, .slice ta m tc, .slice none 0 0, .bool false, .slice none 0 0]
structure QVal (w : World) (v : Value) (sl : List Slt) (first : Nat) (T : List (List Job)) : Prop where
  form : ∃ a c cnt ta tc, v = qval a sl.length c cnt first ta T.length tc ∧ SlotsAt w a sl.length sl ∧ StairsAt w ta T.length T
theorem QVal.gr {w w' : World} {v : Value} {sl : List Slt} {first : Nat} {T : List (List Job)} (h : QVal w v sl first T) (g : Gr w w') : QVal w' v sl first T := by
  obtain ⟨a, c, cnt, ta, tc, h1, h2, h3⟩ := h.form
  exact ⟨a, c, cnt, ta, tc, h1, h2.gr g, h3.gr g⟩

theorem Gr.alloc (w : World) (o : Obj) : Gr w (w.alloc o) := Below.alloc (Below.refl _ _) (Nat.le_refl _) _
set_option maxHeartbeats 1000000 in
theorem qat_box (u : World) (lb : Nat) (hlb : u.heap.size = lb) (A C : List Slt) (fA fC : Nat) (TA TC : List (List Job)) (a1 s1 a2 s2 : Option Addr) (c1 p1 c2 p2 : Nat) (t1 t2 : Int) (h11 : SlotsAt u a1 A.length A) (h12 : StairsAt u s1 TA.length TA) (h21 : SlotsAt u a2 C.length C) (h22 : StairsAt u s2 TC.length TC) :
    QAt (u.alloc (Obj.cells #[.slice none 0 0, .slice none 0 0, .slice a1 A.length c1, .slice none 0 0, .int .i64 t1, .int .i64 A.length, .int .i64 fA, .slice s1 TA.length p1, .slice none 0 0, .bool false, .slice none 0 0, .slice none 0 0, .slice none 0 0, .slice a2 C.length c2, .slice none 0 0, .int .i64 t2, .int .i64 C.length, .int .i64 fC, .slice s2 TC.length p2, .slice none 0 0, .bool false, .slice none 0 0] 59)) lb 0 A fA TA ∧
    QAt (u.alloc (Obj.cells #[.slice none 0 0, .slice none 0 0, .slice a1 A.length c1, .slice none 0 0, .int .i64 t1, .int .i64 A.length, .int .i64 fA, .slice s1 TA.length p1, .slice none 0 0, .bool false, .slice none 0 0, .slice none 0 0, .slice none 0 0, .slice a2 C.length c2, .slice none 0 0, .int .i64 t2, .int .i64 C.length, .int .i64 fC, .slice s2 TC.length p2, .slice none 0 0, .bool false, .slice none 0 0] 59)) lb 11 C fC TC := by
  subst hlb
  refine ⟨⟨⟨a1, c1, ?_, h11.gr (Gr.alloc _ _)⟩, ?_, ?_, s1, p1, ?_, h12.gr (Gr.alloc _ _)⟩, ⟨a2, c2, ?_, h21.gr (Gr.alloc _ _)⟩, ?_, ?_, s2, p2, ?_, h22.gr (Gr.alloc _ _)⟩ <;> simp

set_option maxRecDepth 10000 in
set_option maxHeartbeats 4000000 in
theorem lineup_any (va vc : Value) (bd : Bd) (A C : List Slt) (dA fA dC fC : Nat) (TA TC : List (List Job)) (pos : Int) (w : World) (hA : QVal w va A fA TA) (hC : QVal w vc C fC TC) (kA : QOk A dA fA TA) (kC : QOk C dC fC TC) (hp1 : -9223372036854775808 ≤ pos) (hp2 : pos < 9223372036854775807) (lA : A.length ≤ 4096) (lC : C.length ≤ 4096) :
    Calls Try.prog 9 #[va, vc, .int .i64 pos, .int .i64 bd.size, .float .f64 bd.longest, .float .f64 bd.now, .float .f64 bd.fin] w fun e w' => Gr w w' ∧ ∃ r : Int, e = .returned (.int .i64 r) ∧ IsNext bd (A ++ C) pos r := by
  obtain ⟨a1, c1, t1, s1, p1, rfl, h11, h12⟩ := hA.form
  obtain ⟨a2, c2, t2, s2, p2, rfl, h21, h22⟩ := hC.form
  unfold qval
  have H11 := hide h11
  have H12 := hide h12
  have H21 := hide h21
  have H22 := hide h22
  have HKA := hide kA
  have HKC := hide kC
  clear h11 h12 h21 h22 hA hC kA kC
  go_enter Try.func9, Try.ntmps9
  go_wp2_with fail
  have hQ := fun u hu => qat_box u (w.heap.size + 1 + 1) hu A C fA fC TA TC a1 s1 a2 s2 c1 p1 c2 p2 t1 t2
  refine (line_any (w.heap.size + 1 + 1) bd A C dA fA dC fC TA TC pos _ (hQ _ (by simp) (H11.out.gr ?_) (H12.out.gr ?_) (H21.out.gr ?_) (H22.out.gr ?_)).1 (hQ _ (by simp) (H11.out.gr ?_) (H12.out.gr ?_) (H21.out.gr ?_) (H22.out.gr ?_)).2 HKA.out HKC.out hp1 hp2 lA lC).mono ?_
  rotate_left 8
  · rintro e w2 ⟨hg, r, rfl, hX⟩
    have HX := hide hX
    have hG := hide ((((Gr.alloc _ _).trans (Gr.alloc _ _)).trans (Gr.alloc _ _)).trans hg)
    clear hg hX hQ
    go_wp2
    go_ret
    exact ⟨hG.out, _, rfl, HX.out⟩
  all_goals exact (Gr.alloc _ _).trans (Gr.alloc _ _)

end Go.Proofs.Qxb6604754a
