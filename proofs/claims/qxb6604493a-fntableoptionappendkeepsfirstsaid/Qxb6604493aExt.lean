import Derived.Test.Qxb6604493aLaw1
namespace Go.Proofs.Qxb6604493a
open Go.RowKit

/-- a new row of options, in block G: its first k are copied -/
def RowG (w : World) (G : Nat) (wr : World) (len k : Nat) (os : List (ByteArray × ByteArray)) : Prop :=
  Below G w wr ∧ G < wr.heap.size ∧ (∀ j, j < len → (∃ x, wr.cell? ⟨G, j * 2, none⟩ = some (.string x)) ∧ (∃ y, wr.cell? ⟨G, j * 2 + 1, none⟩ = some (.string y)) ∧ wr.frozen? ⟨G, j * 2, none⟩ = false ∧ wr.frozen? ⟨G, j * 2 + 1, none⟩ = false) ∧
  ∀ j, j < k → ∃ p1 p2, os[j]? = some (p1, p2) ∧ wr.cell? ⟨G, j * 2, none⟩ = some (.string p1) ∧ wr.cell? ⟨G, j * 2 + 1, none⟩ = some (.string p2)

theorem rowg_first {w w1 : World} {G len : Nat} (hG : G = w.heap.size) {os : List (ByteArray × ByteArray)} (hown : w1.ownsRow G 47 2 (.slice (some ⟨G, 0, none⟩) len len) len (madeCells (Value.agg #[.string ⟨#[]⟩, .string ⟨#[]⟩]).cells (len * 2)).toList) (hg : w.grownBy w1 none) : RowG w G w1 len 0 os := by
  refine ⟨(Below.refl _ _).grown hg (by omega) (by simp), (hown.lt _ rfl).2, fun j hj => ⟨⟨⟨#[]⟩, ?_⟩, ⟨⟨#[]⟩, ?_⟩, hown.frozenAt _, hown.frozenAt _⟩, fun j hj => by omega⟩
  · rw [hown.cellAt _ (by omega), show (Value.agg #[.string ⟨#[]⟩, .string ⟨#[]⟩]).cells = #[.string ⟨#[]⟩, .string ⟨#[]⟩] from rfl, made_two _ _ _ _ (by omega)]
    simp
  · rw [hown.cellAt _ (by omega), show (Value.agg #[.string ⟨#[]⟩, .string ⟨#[]⟩]).cells = #[.string ⟨#[]⟩, .string ⟨#[]⟩] from rfl, made_two _ _ _ _ (by omega)]
    simp

theorem RowG.step {w wr : World} {G len k : Nat} {os : List (ByteArray × ByteArray)} (h : RowG w G wr len k os) (hk : k < len) (p1 p2 : ByteArray) (hp : os[k]? = some (p1, p2)) :
    RowG w G ((wr.setCell ⟨G, k * 2, none⟩ (.string p1)).setCell ⟨G, k * 2 + 1, none⟩ (.string p2)).drew len (k + 1) os := by
  obtain ⟨h1, h2, h3, h4⟩ := h
  obtain ⟨⟨x, hx⟩, ⟨y, hy⟩, hfx, hfy⟩ := h3 k hk
  have e1 : ∀ o, o ≠ k * 2 → o ≠ k * 2 + 1 → ((wr.setCell ⟨G, k * 2, none⟩ (.string p1)).setCell ⟨G, k * 2 + 1, none⟩ (.string p2)).drew.cell? ⟨G, o, none⟩ = wr.cell? ⟨G, o, none⟩ := by
    intro o n1 n2
    rw [World.cell?_drew, World.cell?_setCell_other _ _ _ _ (by simp), World.cell?_setCell_other _ _ _ _ (by simp)]
  have e2 : ((wr.setCell ⟨G, k * 2, none⟩ (.string p1)).setCell ⟨G, k * 2 + 1, none⟩ (.string p2)).drew.cell? ⟨G, k * 2, none⟩ = some (.string p1) := by
    rw [World.cell?_drew, World.cell?_setCell_other _ _ _ _ (by simp)]
    exact World.cell?_setCell_same _ _ _ hx
  have e3 : ((wr.setCell ⟨G, k * 2, none⟩ (.string p1)).setCell ⟨G, k * 2 + 1, none⟩ (.string p2)).drew.cell? ⟨G, k * 2 + 1, none⟩ = some (.string p2) := by
    rw [World.cell?_drew]
    refine World.cell?_setCell_same _ _ _ (u := .string y) ?_
    rw [World.cell?_setCell_other _ _ _ _ (by simp)]
    exact hy
  have e4 : ∀ o, ((wr.setCell ⟨G, k * 2, none⟩ (.string p1)).setCell ⟨G, k * 2 + 1, none⟩ (.string p2)).drew.frozen? ⟨G, o, none⟩ = wr.frozen? ⟨G, o, none⟩ := by
    intro o
    show ((wr.setCell ⟨G, k * 2, none⟩ (.string p1)).setCell ⟨G, k * 2 + 1, none⟩ (.string p2)).frozen? ⟨G, o, none⟩ = _
    rw [World.frozen?_setCell, World.frozen?_setCell]
  refine ⟨((h1.setCell (Nat.le_refl _) _).setCell (Nat.le_refl _) _).drew, by simpa using h2, fun j hj => ?_, fun j hj => ?_⟩
  · by_cases e : j = k
    · subst e
      exact ⟨⟨_, e2⟩, ⟨_, e3⟩, (e4 _).trans hfx, (e4 _).trans hfy⟩
    · obtain ⟨⟨x', hx'⟩, ⟨y', hy'⟩, hf1, hf2⟩ := h3 j hj
      exact ⟨⟨x', by rw [e1 _ (by omega) (by omega)]; exact hx'⟩, ⟨y', by rw [e1 _ (by omega) (by omega)]; exact hy'⟩, (e4 _).trans hf1, (e4 _).trans hf2⟩
  · by_cases e : j = k
    · subst e
      exact ⟨p1, p2, hp, e2, e3⟩
    · obtain ⟨q1, q2, g1, g2, g3⟩ := h4 j (by omega)
      exact ⟨q1, q2, g1, by rw [e1 _ (by omega) (by omega)]; exact g2, by rw [e1 _ (by omega) (by omega)]; exact g3⟩
theorem RowG.opts {w wr : World} {G len : Nat} {os : List (ByteArray × ByteArray)} (h : RowG w G wr len len os) (hl : os.length = len) : Opts wr (some ⟨G, 0, none⟩) len os := by
  refine ⟨hl, fun j hj => ?_⟩
  obtain ⟨p1, p2, g1, g2, g3⟩ := h.2.2.2 j hj
  exact ⟨G, 0, p1, p2, rfl, g1, by rw [Nat.zero_add]; exact g2, by rw [Nat.zero_add]; exact g3⟩

theorem RowG.undrew {w wr : World} {G len k : Nat} {os : List (ByteArray × ByteArray)} (h : RowG w G wr.drew len k os) : RowG w G wr len k os := by
  obtain ⟨h1, h2, h3, h4⟩ := h
  exact ⟨⟨h1.os, h1.tape, h1.output, h1.size, h1.block⟩, h2, h3, h4⟩

theorem find_snd (q : ByteArray) (os : List (ByteArray × ByteArray)) (h : (find q os).2 = false) : find q os = (⟨#[]⟩, false) := by
  induction os with
  | nil => rfl
  | cons p r ih =>
    cases hm : (p.1.toList == q.toList) with
    | true => rw [find_hit q p r hm] at h; cases h
    | false => rw [find_miss q p r hm] at h ⊢; exact ih h
theorem find_app (q : ByteArray) (os : List (ByteArray × ByteArray)) (p : ByteArray × ByteArray) : find q (os ++ [p]) = if (find q os).2 = true then find q os else find q [p] := by
  induction os with
  | nil => simp [find]
  | cons x r ih =>
    cases hm : (x.1.toList == q.toList) with
    | true => rw [List.cons_append, find_hit q x _ hm, find_hit q x _ hm]; simp
    | false => rw [List.cons_append, find_miss q x _ hm, find_miss q x _ hm]; exact ih

set_option maxHeartbeats 400000 in
theorem bytes9 (a : Option Addr) (len cap : Nat) (os : List (ByteArray × ByteArray)) (s1 s2 s3 : ByteArray) (w : World) (hm : len ≤ 9223372036854775807) (h : Opts w a len os) :
    Calls Try.prog 9 #[.slice a len cap, .string s1, .string s2, .string s3] w fun e w' => Ans e ∧ w = w' := by
  have HC := hide h
  clear h
  by_cases hl : len ≤ 1048576
  · go_enter Try.func9, Try.ntmps9
    go_wp2
    go_loop [9, 10] (fun t i => ∃ (k : Nat) (z : Int), k ≤ len ∧ i = .int .i64 k ∧ t = .int .i64 z ∧ 0 ≤ z ∧ z ≤ 1048576) (fun _ i => len - (intOf i).toNat)
    case atStart => exact ⟨0, _, Nat.zero_le _, rfl, rfl, by omega, by omega⟩
    case round =>
    obtain ⟨k, z, hk, rfl, rfl, hz0, hz1⟩ := hrel
    by_cases hlt : k < len
    · obtain ⟨b, off, p1, p2, rfl, -, hn, hv⟩ := HC.out.2 k hlt
      by_cases h1 : p1.size ≤ 1048576
      · by_cases h2 : z + p1.size ≤ 1048576
        · by_cases h3 : p2.size ≤ 1048576
          · by_cases h4 : z + p1.size + p2.size ≤ 1048576
            · go_wp2
              go_round
              case rel => exact ⟨k + 1, _, by omega, by go_num, rfl, by omega, h4⟩
              case measure => simp [intOf]; omega
            · go_wp2
              go_ret
              exact ⟨ans_any _, rfl⟩
          · go_wp2
            go_ret
            exact ⟨ans_any _, rfl⟩
        · go_wp2
          go_ret
          exact ⟨ans_any _, rfl⟩
      · go_wp2
        go_ret
        exact ⟨ans_any _, rfl⟩
    · go_wp2
      all_goals
        go_ret
        exact ⟨ans_any _, rfl⟩
  · go_enter Try.func9, Try.ntmps9
    go_wp2
    go_ret
    exact ⟨ans_any _, rfl⟩

end Go.Proofs.Qxb6604493a
