import Derived.Test.Qxb6604493aTo
namespace Go.Proofs.Qxb6604493a
open Go.RowKit

/-- the value of the first option of that name -/
def find (q : ByteArray) : List (ByteArray × ByteArray) → ByteArray × Bool
  | [] => (⟨#[]⟩, false)
  | p :: r => if (p.1.toList == q.toList) = true then (p.2, true) else find q r
def NoHit (q : ByteArray) (os : List (ByteArray × ByteArray)) (k : Nat) : Prop := ∀ j, j < k → ∀ p, os[j]? = some p → (p.1.toList == q.toList) = false
theorem find_none (q : ByteArray) (os : List (ByteArray × ByteArray)) (h : NoHit q os os.length) : find q os = (⟨#[]⟩, false) := by
  induction os with
  | nil => rfl
  | cons p r ih =>
    have h0 := h 0 (by simp) p rfl
    simp only [find, h0, Bool.false_eq_true, if_false]
    exact ih (fun j hj x hx => h (j + 1) (by simp; omega) x (by simpa using hx))
theorem find_at (q : ByteArray) (os : List (ByteArray × ByteArray)) (k : Nat) (p : ByteArray × ByteArray) (hp : os[k]? = some p) (hm : (p.1.toList == q.toList) = true) (h : NoHit q os k) : find q os = (p.2, true) := by
  induction os generalizing k with
  | nil => simp at hp
  | cons x r ih =>
    cases k with
    | zero =>
      simp at hp
      subst hp
      simp only [find, hm, if_true]
    | succ k =>
      have h0 := h 0 (by omega) x rfl
      simp only [find, h0, Bool.false_eq_true, if_false]
      exact ih k (by simpa using hp) (fun j hj y hy => h (j + 1) (by omega) y (by simpa using hy))
theorem find_hit (q : ByteArray) (p : ByteArray × ByteArray) (r : List (ByteArray × ByteArray)) (h : (p.1.toList == q.toList) = true) : find q (p :: r) = (p.2, true) := by simp only [find, h, if_true]
theorem find_miss (q : ByteArray) (p : ByteArray × ByteArray) (r : List (ByteArray × ByteArray)) (h : (p.1.toList == q.toList) = false) : find q (p :: r) = find q r := by simp only [find, h, Bool.false_eq_true, if_false]
/-- what IndexFunc answers -/
def Ix (q : ByteArray) (os : List (ByteArray × ByteArray)) (t : Int) : Prop :=
  (t = -1 ∧ NoHit q os os.length) ∨ ∃ (k : Nat) (p : ByteArray × ByteArray), t = k ∧ os[k]? = some p ∧ (p.1.toList == q.toList) = true ∧ NoHit q os k
def IxE (q : ByteArray) (os : List (ByteArray × ByteArray)) (e : Ending) : Prop := ∃ t, e = .returned (.int .i64 t) ∧ Ix q os t
theorem ixe_no {q : ByteArray} {os : List (ByteArray × ByteArray)} (h : NoHit q os os.length) : IxE q os (.returned (.int .i64 (-1))) := ⟨-1, rfl, .inl ⟨rfl, h⟩⟩
theorem ixe_at {q : ByteArray} {os : List (ByteArray × ByteArray)} (k : Nat) (p : ByteArray × ByteArray) (h1 : os[k]? = some p) (h2 : (p.1.toList == q.toList) = true) (h3 : NoHit q os k) : IxE q os (.returned (.int .i64 k)) := ⟨k, rfl, .inr ⟨k, p, rfl, h1, h2, h3⟩⟩

set_option maxHeartbeats 400000 in
theorem clos_any (p1 p2 q : ByteArray) (Q : Nat) (w : World) (hq : w.cell? ⟨Q, 0, none⟩ = some (.string q)) :
    Calls Try.prog 12 #[.agg #[.string p1, .string p2], .pointer (some ⟨Q, 0, none⟩)] w fun e w' => e = .returned (.bool (p1.toList == q.toList)) ∧ Below w.heap.size w w' := by
  have hQ : Q < w.heap.size := World.block_lt_of_cell? w _ hq
  go_enter Try.func12, Try.ntmps12
  go_wp2
  go_ret
  exact ⟨rfl, (Below.refl _ _).alloc (Nat.le_refl _) _⟩

set_option maxHeartbeats 400000 in
theorem idx_any (a : Option Addr) (n c Q : Nat) (q : ByteArray) (os : List (ByteArray × ByteArray)) (w : World) (hn : n ≤ 65537) (h : Opts w a n os) (hq : w.cell? ⟨Q, 0, none⟩ = some (.string q)) :
    Calls Try.prog 11 #[.slice a n c, .func (Fn.func 12) #[] #[.pointer (some ⟨Q, 0, none⟩)]] w fun e w' => IxE q os e ∧ Below w.heap.size w w' := by
  have hQ : Q < w.heap.size := World.block_lt_of_cell? w _ hq
  have HC := hide h
  have HL := hide h.1
  clear h
  go_enter Try.func11, Try.ntmps11
  go_wp2
  go_loopw [8] (fun i wr => ∃ k : Nat, k ≤ n ∧ i = .int .i64 k ∧ NoHit q os k ∧ Below w.heap.size w wr) (fun i _ => n - (intOf i).toNat)
  case atStart => exact ⟨0, Nat.zero_le _, rfl, fun j hj => by omega, Below.refl _ _⟩
  case round =>
  obtain ⟨k, hk, rfl, hno, hbel⟩ := hrel
  have HNO := hide hno
  clear hno
  by_cases hlt : k < n
  · obtain ⟨b, off, p1, p2, rfl, hp, hn0, hv0⟩ := HC.out.2 k hlt
    have hb : b < w.heap.size := World.block_lt_of_cell? w _ hn0
    have hn1 : wr.cell? ⟨b, off + k * 2, none⟩ = some (.string p1) := (hbel.cell (by exact hb)).trans hn0
    have hv1 : wr.cell? ⟨b, off + k * 2 + 1, none⟩ = some (.string p2) := (hbel.cell (by exact hb)).trans hv0
    have hqr : wr.cell? ⟨Q, 0, none⟩ = some (.string q) := (hbel.cell (by exact hQ)).trans hq
    have HP := hide hp
    have cc := hide (clos_any p1 p2 q Q wr hqr)
    clear hp hn0 hv0 hqr
    cases hm : (p1.toList == q.toList) with
    | true =>
      rw [hm] at cc
      have HM := hide hm
      clear hm
      go_wp2_with (go_at_call 12; refine cc.out.mono ?_; rintro e w2 ⟨rfl, hb2⟩)
      go_ret
      exact ⟨ixe_at k (p1, p2) HP.out HM.out HNO.out, hbel.trans (hb2.mono (by have := hbel.size; exact this))⟩
    | false =>
      rw [hm] at cc
      have HM := hide hm
      clear hm
      go_wp2_with (go_at_call 12; refine cc.out.mono ?_; rintro e w2 ⟨rfl, hb2⟩)
      go_roundw
      case rel => exact ⟨k + 1, by omega, by go_num, fun j hj p hp => by
        by_cases e : j = k
        · subst e
          rw [HP.out] at hp
          have : (p1, p2) = p := by simpa using hp
          subst this
          exact HM.out
        · exact HNO.out j (by omega) p hp, hbel.trans (hb2.mono (by have := hbel.size; exact this))⟩
      case measure => simp [intOf]; omega
  · go_wp2
    go_ret
    exact ⟨ixe_no (fun j hj => HNO.out j (by have := HL.out; omega)), hbel⟩

set_option maxHeartbeats 400000 in
theorem opt_any (T n c : Nat) (a : Option Addr) (q : ByteArray) (os : List (ByteArray × ByteArray)) (w : World) (hn : n ≤ 65537) (hT : w.cell? ⟨T, 3, none⟩ = some (.slice a n c)) (h : Opts w a n os) :
    Calls Try.prog 10 #[.pointer (some ⟨T, 0, none⟩), .string q] w fun e w' => IxE q os e ∧ Below w.heap.size w w' := by
  have hTl : T < w.heap.size := World.block_lt_of_cell? w _ hT
  have HC := hide (h.below ((Below.refl _ _).alloc (Nat.le_refl _) (Obj.cells #[Value.string q] 9)))
  clear h
  go_enter Try.func10, Try.ntmps10
  go_wp2_with fail
  refine (idx_any a n c w.heap.size q os _ hn (by exact HC.out) (by simp)).mono ?_
  rintro e w2 ⟨⟨t, rfl, hix⟩, hb2⟩
  have HI := hide hix
  clear hix
  go_wp2
  go_ret
  exact ⟨⟨t, rfl, HI.out⟩, ((Below.refl _ _).alloc (Nat.le_refl _) _).trans (hb2.mono (by simp))⟩

set_option maxHeartbeats 400000 in
theorem option_any (T n c : Nat) (a : Option Addr) (q : ByteArray) (os : List (ByteArray × ByteArray)) (w : World) (hn : n ≤ 65537) (hT : w.cell? ⟨T, 3, none⟩ = some (.slice a n c)) (h : Opts w a n os) :
    Calls Try.prog 8 #[.pointer (some ⟨T, 0, none⟩), .string q] w fun e w' => e = .returned (.tuple #[.string (find q os).1, .bool (find q os).2]) ∧ Below w.heap.size w w' := by
  have hTl : T < w.heap.size := World.block_lt_of_cell? w _ hT
  have cc := hide (opt_any T n c a q os w hn hT h)
  obtain ⟨fv, hfv⟩ : ∃ fv, (find q os).1 = fv := ⟨_, rfl⟩
  obtain ⟨fb, hfb⟩ : ∃ fb, (find q os).2 = fb := ⟨_, rfl⟩
  rw [hfv, hfb]
  have HV := hide hfv
  have HB := hide hfb
  have HC := hide h
  clear hfv hfb h
  go_enter Try.func8, Try.ntmps8
  go_wp2_with fail
  refine cc.out.mono ?_
  rintro e w2 ⟨⟨t, rfl, hix⟩, hb2⟩
  rcases hix with ⟨rfl, hno⟩ | ⟨k, p, rfl, h1, h2, h3⟩
  · have hf := find_none q os hno
    rw [hf] at HV HB
    have V := HV.out
    have B := HB.out
    simp only at V B
    subst V
    subst B
    clear hno cc HV HB hf
    go_wp2
    go_ret2
    exact ⟨rfl, hb2⟩
  · have hf := find_at q os k p h1 h2 h3
    rw [hf] at HV HB
    have V := HV.out
    have B := HB.out
    simp only at V B
    have hkl : k < n := by
      have := (List.getElem?_eq_some_iff.1 h1).1
      rw [HC.out.1] at this; exact this
    obtain ⟨b, off, p1, p2, rfl, hp, hn0, hv0⟩ := HC.out.2 k hkl
    rw [hp] at h1
    have : (p1, p2) = p := by simpa using h1
    subst this
    simp only at V
    subst V
    subst B
    have hb : b < w.heap.size := World.block_lt_of_cell? w _ hn0
    have hv1 : w2.cell? ⟨b, off + k * 2 + 1, none⟩ = some (.string p2) := (hb2.cell (by exact hb)).trans hv0
    have hT2 : w2.cell? ⟨T, 3, none⟩ = some (.slice (some ⟨b, off, none⟩) n c) := (hb2.cell (by exact hTl)).trans hT
    clear h1 h2 h3 hp hn0 hv0 cc HV HB hf hT
    go_wp2
    go_ret2
    exact ⟨rfl, hb2⟩

end Go.Proofs.Qxb6604493a
