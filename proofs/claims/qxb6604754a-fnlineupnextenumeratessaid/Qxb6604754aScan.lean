import Derived.Test.Qxb6604754aStair
namespace Go.Proofs.Qxb6604754a
open Go.RowKit

/-- the slots lie in a slice -/
structure SlotsAt (w : World) (a : Option Addr) (n : Nat) (sl : List Slt) : Prop where
  len : sl.length = n
  at' : ∀ i x, sl[i]? = some x → ∃ b off, a = some ⟨b, off, none⟩ ∧ w.cell? ⟨b, off + i * 3, none⟩ = some (.int .i64 x.1) ∧ w.cell? ⟨b, off + i * 3 + 1, none⟩ = some (.int .i64 x.2.1) ∧ w.cell? ⟨b, off + i * 3 + 2, none⟩ = some (.float .f64 x.2.2)
theorem SlotsAt.gr {w w' : World} {a : Option Addr} {n : Nat} {S : List Slt} (h : SlotsAt w a n S) (g : Gr w w') : SlotsAt w' a n S :=
  ⟨h.len, fun i x hx => by
    obtain ⟨b, off, h1, h2, h3, h4⟩ := h.at' i x hx
    exact ⟨b, off, h1, g.cell h2, g.cell h3, g.cell h4⟩⟩
/-- the staircases lie in a slice of slices -/
structure StairsAt (w : World) (a : Option Addr) (m : Nat) (T : List (List Job)) : Prop where
  len : T.length = m
  at' : ∀ k S, T[k]? = some S → ∃ b off a' c, a = some ⟨b, off, none⟩ ∧ w.cell? ⟨b, off + k, none⟩ = some (.slice a' S.length c) ∧ StepsAt w a' S.length S
theorem StairsAt.gr {w w' : World} {a : Option Addr} {n : Nat} {T : List (List Job)} (h : StairsAt w a n T) (g : Gr w w') : StairsAt w' a n T :=
  ⟨h.len, fun i x hx => by
    obtain ⟨b, off, a', c, h1, h2, h3⟩ := h.at' i x hx
    exact ⟨b, off, a', c, h1, g.cell h2, h3.gr g⟩⟩
/-- a queue lies at an address -/
structure QAt (w : World) (b o : Nat) (sl : List Slt) (first : Nat) (T : List (List Job)) : Prop where
  slots : ∃ a c, w.cell? ⟨b, o + 2, none⟩ = some (.slice a sl.length c) ∧ SlotsAt w a sl.length sl
  tail : w.cell? ⟨b, o + 5, none⟩ = some (.int .i64 sl.length)
  fst : w.cell? ⟨b, o + 6, none⟩ = some (.int .i64 first)
  stairs : ∃ a c, w.cell? ⟨b, o + 7, none⟩ = some (.slice a T.length c) ∧ StairsAt w a T.length T
theorem QAt.gr {w w' : World} {b o : Nat} {sl : List Slt} {first : Nat} {T : List (List Job)} (h : QAt w b o sl first T) (g : Gr w w') : QAt w' b o sl first T := by
  obtain ⟨⟨a, c, h1, h2⟩, h3, h4, a', c', h5, h6⟩ := h
  exact ⟨⟨a, c, g.cell h1, h2.gr g⟩, g.cell h3, g.cell h4, a', c', g.cell h5, h6.gr g⟩

/-- the first admitted position in a range -/
def FirstIn (bd : Bd) (sl : List Slt) (lo hi : Nat) (r : Int) : Prop :=
  (r = -1 ∧ ∀ p : Nat, lo ≤ p → p < hi → ¬ adP bd sl p) ∨ (∃ q : Nat, r = q ∧ lo ≤ q ∧ q < hi ∧ adP bd sl q ∧ ∀ p : Nat, lo ≤ p → p < q → ¬ adP bd sl p)

set_option maxHeartbeats 2000000 in
theorem scan_any (b o qb qo lo hi : Nat) (bd : Bd) (sl : List Slt) (first : Nat) (T : List (List Job)) (w : World) (hq : QAt w qb qo sl first T) (hb : BdAt w b o bd) (hlo : lo ≤ 65536) (hn : sl.length ≤ 65536) :
    Calls Try.prog 22 #[.pointer (some ⟨qb, qo, none⟩), .int .i64 lo, .int .i64 hi, .pointer (some ⟨b, o, none⟩)] w fun e w' => Gr w w' ∧ ∃ r : Int, e = .returned (.int .i64 r) ∧ FirstIn bd sl lo hi r := by
  have HQ := hide hq
  have HB := hide hb
  clear hq hb
  obtain ⟨n, hne⟩ : ∃ n, sl.length = n := ⟨_, rfl⟩
  obtain ⟨m, hm, hm1, hm2, hm3⟩ : ∃ m : Nat, (if n < hi then (n : Int) else (hi : Int)) = m ∧ m ≤ n ∧ m ≤ hi ∧ (n ≤ m ∨ hi ≤ m) := by
    by_cases h : n < hi
    · exact ⟨n, by simp [h], by omega, by omega, by omega⟩
    · exact ⟨hi, by simp [h], by omega, by omega, by omega⟩
  go_enter Try.func22, Try.ntmps22
  go_wp2
  go_loopw [9] (fun i wr => ∃ p : Nat, i = .int .i64 p ∧ lo ≤ p ∧ p ≤ 65536 ∧ Hid (Gr w wr) ∧ Hid (∀ p' : Nat, lo ≤ p' → p' < p → ¬ adP bd sl p')) (fun i _ => 65536 - (intOf i).toNat)
  case atStart => exact ⟨lo, rfl, by omega, by omega, Gr.refl _, fun p h1 h2 => by omega⟩
  case round =>
  obtain ⟨p, rfl, hp, hp2, hg, hno⟩ := hrel
  have hQ := HQ.out.gr hg.out
  have ht := hQ.tail
  rw [hne] at ht
  by_cases hc : p < m
  · have hc2 : p < n := by omega
    obtain ⟨a, cp, hs1, hs2⟩ := hQ.slots
    rw [hne] at hs1
    obtain ⟨x, hx⟩ : ∃ x, sl[p]? = some x := ⟨_, List.getElem?_eq_getElem (by omega)⟩
    obtain ⟨b', off, rfl, d1, d2, d3⟩ := hs2.at' p x hx
    by_cases hj : 0 ≤ x.1
    · clear hQ hs2
      go_wp2_with fail
      refine (admits_any b o bd x.2.1 x.2.2 _ (HB.out.gr hg.out)).mono ?_
      rintro e2 w2 ⟨rfl, hg2⟩
      have hG := hide (hg.out.trans hg2)
      cases ha : ad bd (x.2.1, x.2.2) with
      | true =>
        have hF : FirstIn bd sl lo hi p := .inr ⟨p, rfl, hp, by omega, ⟨x, hx, hj, ha⟩, hno.out⟩
        go_wp2
        go_ret
        exact ⟨hG, _, rfl, hF⟩
      | false =>
        have hnp : ¬ adP bd sl p := by
          rintro ⟨y, h1, h2, h3⟩
          rw [hx] at h1
          cases h1
          exact Bool.false_ne_true (ha.symm.trans h3)
        have hno' := hide (fun (p' : Nat) (h1 : lo ≤ p') (h2 : p' < p + 1) => show ¬ adP bd sl p' from (by
          by_cases e : p' = p
          · rw [e]; exact hnp
          · exact hno.out p' h1 (by omega)))
        clear hx hno
        go_wp2
        refine ⟨⟨p + 1, by go_num, by omega, by omega, hG, hno'⟩, ?_⟩
        simp [intOf]
        omega
    · have hnp : ¬ adP bd sl p := by
        rintro ⟨y, h1, h2, -⟩
        rw [hx] at h1
        cases h1
        exact hj h2
      have hno' := hide (fun (p' : Nat) (h1 : lo ≤ p') (h2 : p' < p + 1) => show ¬ adP bd sl p' from (by
        by_cases e : p' = p
        · rw [e]; exact hnp
        · exact hno.out p' h1 (by omega)))
      clear hQ hs2 hx hno
      go_wp2
      refine ⟨⟨p + 1, by go_num, by omega, by omega, hg, hno'⟩, ?_⟩
      simp [intOf]
      omega
  · have hF : FirstIn bd sl lo hi (-1) := by
      refine .inl ⟨rfl, fun q h1 h2 => ?_⟩
      by_cases e : q < p
      · exact hno.out q h1 e
      · rintro ⟨y, h3, -⟩
        have := (List.getElem?_eq_some_iff.1 h3).1
        omega
    clear hQ
    go_wp2
    go_ret
    exact ⟨hg, _, rfl, hF⟩

end Go.Proofs.Qxb6604754a
