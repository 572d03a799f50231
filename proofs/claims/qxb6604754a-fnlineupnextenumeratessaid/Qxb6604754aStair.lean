import Derived.Test.Qxb6604754aAdm
namespace Go.Proofs.Qxb6604754a
open Go.RowKit

/-- a staircase lies in a slice of steps -/
structure StepsAt (w : World) (a : Option Addr) (n : Nat) (S : List Job) : Prop where
  len : S.length = n
  at' : ∀ i x, S[i]? = some x → ∃ b off, a = some ⟨b, off, none⟩ ∧ w.cell? ⟨b, off + i * 2, none⟩ = some (.int .i64 x.1) ∧ w.cell? ⟨b, off + i * 2 + 1, none⟩ = some (.float .f64 x.2)
theorem StepsAt.gr {w w' : World} {a : Option Addr} {n : Nat} {S : List Job} (h : StepsAt w a n S) (g : Gr w w') : StepsAt w' a n S :=
  ⟨h.len, fun i x hx => by
    obtain ⟨b, off, h1, h2, h3⟩ := h.at' i x hx
    exact ⟨b, off, h1, g.cell h2, g.cell h3⟩⟩

set_option maxHeartbeats 2000000 in
theorem upTo_any (a : Option Addr) (n cap : Nat) (S : List Job) (size : Int) (w : World) (hn : n ≤ 65536) (h : StepsAt w a n S) (ho : S.Pairwise (fun a b => a.1 < b.1 ∧ E b < E a)) :
    Calls Try.prog 23 #[.slice a n cap, .int .i64 size] w fun e w' => w' = w ∧ ∃ k : Nat, e = .returned (.int .i64 k) ∧ UInv S size k k := by
  have hlen := h.len
  have HC := hide h
  have HO := hide ho
  clear h ho
  go_enter Try.func23, Try.ntmps23
  go_wp2
  go_loopw [5, 6] (fun i j wr => ∃ lo hi : Nat, i = .int .i64 lo ∧ j = .int .i64 hi ∧ wr = w ∧ Hid (UInv S size lo hi)) (fun i j _ => (intOf j).toNat - (intOf i).toNat)
  case atStart => exact ⟨0, n, rfl, rfl, rfl, by rw [← hlen]; exact UInv.start S size⟩
  case round =>
  obtain ⟨lo, hi, rfl, rfl, rfl, hu⟩ := hrel
  have hle := hu.out.le
  have hll := hu.out.len
  by_cases hlt : lo < hi
  · obtain ⟨m, hm⟩ : ∃ m, m = (lo + hi) / 2 := ⟨_, rfl⟩
    have hm1 : lo ≤ m := by omega
    have hm2 : m < hi := by omega
    have hm3 : ((lo : Int) + hi) / 2 = m := by omega
    obtain ⟨x, hx⟩ : ∃ x, S[m]? = some x := ⟨_, List.getElem?_eq_getElem (by omega)⟩
    obtain ⟨b, off, rfl, c1, -⟩ := HC.out.at' m x hx
    by_cases hc : x.1 ≤ size
    · have hU := hide (hu.out.up HO.out hm2 hx hc)
      clear hu hx hm
      go_wp2
      refine ⟨⟨m + 1, hi, by go_num, rfl, trivial, hU⟩, ?_⟩
      simp [intOf]
      omega
    · have hU := hide (hu.out.down HO.out hm1 hm2 hx (by omega))
      clear hu hx hm
      go_wp2
      refine ⟨⟨lo, m, rfl, rfl, trivial, hU⟩, ?_⟩
      simp [intOf]
      omega
  · obtain rfl : lo = hi := by omega
    go_wp2
    go_ret
    exact ⟨rfl, lo, rfl, hu⟩

set_option maxHeartbeats 2000000 in
theorem holds_any (a : Option Addr) (n cap b o : Nat) (S : List Job) (J : Job → Prop) (bd : Bd) (r : Bool) (w : World) (hn : n ≤ 65536) (h : StepsAt w a n S) (hS : Stair J S) (hd : ∀ j, J j → dom j.2) (hb : BdAt w b o bd)
    (hr : r = true ↔ Held J bd) :
    Calls Try.prog 21 #[.slice a n cap, .pointer (some ⟨b, o, none⟩)] w fun e w' => e = .returned (.bool r) ∧ Gr w w' := by
  have hlen := h.len
  have HC := hide h
  have HB := hide hb
  have c0 := hb.c0
  have HS := hide hS
  have HR := hide hr
  clear h hb hS hr
  go_enter Try.func21, Try.ntmps21
  go_wp2_with fail
  refine (upTo_any a n cap S bd.size w hn HC.out HS.out.ord).mono ?_
  rintro e1 w1 ⟨rfl, k, rfl, hu⟩
  have hkl := hu.len
  cases k with
  | zero =>
    have e1 : r = false := by
      have := held_none HS.out hu
      cases r with
      | false => rfl
      | true => exact absurd (HR.out.1 rfl) this
    subst e1
    clear hu
    go_wp2
    go_ret
    exact ⟨rfl, Gr.refl _⟩
  | succ k =>
    obtain ⟨x, hx⟩ : ∃ x, S[k]? = some x := ⟨_, List.getElem?_eq_getElem (by omega)⟩
    obtain ⟨b', off, rfl, d1, d2⟩ := HC.out.at' k x hx
    have e1 : ad bd (x.1, x.2) = r := by
      have := held_at HS.out hd hu hx
      rw [← HR.out] at this
      exact Bool.eq_iff_iff.2 this
    clear hu hx
    go_wp2_with fail
    refine (admits_any b o bd x.1 x.2 _ HB.out).mono ?_
    rintro e2 w2 ⟨rfl, hg⟩
    rw [e1]
    go_wp2
    go_ret
    exact ⟨rfl, hg⟩

end Go.Proofs.Qxb6604754a
