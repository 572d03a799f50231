import Derived.Test.Qxb6604754aScan
namespace Go.Proofs.Qxb6604754a
open Go.RowKit

theorem nodup_len {α : Type} [DecidableEq α] : ∀ (S L : List α), S.Nodup → (∀ s ∈ S, s ∈ L) → S.length ≤ L.length
  | [], _, _, _ => Nat.zero_le _
  | a :: S, L, hn, hs => by
    have h1 : a ∈ L := hs a (by simp)
    have hn' := List.nodup_cons.1 hn
    have := nodup_len S (L.erase a) hn'.2 (fun s h => (List.mem_erase_of_ne (fun e => hn'.1 (by rw [← e]; exact h))).2 (hs s (List.mem_cons_of_mem _ h)))
    rw [List.length_erase_of_mem h1] at this
    have := List.length_pos_of_mem h1
    simp only [List.length_cons]
    omega
theorem Stair.len {sl : List Slt} {lo hi : Nat} {S : List Job} (h : Stair (Jn sl lo hi) S) : S.length ≤ sl.length := by
  have h1 : S.Nodup := show S.Pairwise (· ≠ ·) from List.pairwise_iff_getElem.2 fun i j hi hj hij e => by
    have := List.pairwise_iff_getElem.1 h.ord i j hi hj hij
    rw [e] at this
    omega
  have := nodup_len S (sl.map Prod.snd) h1 fun s hs => by
    obtain ⟨p, x, -, -, h2, -, rfl⟩ := h.mem s hs
    exact List.mem_map.2 ⟨x, List.mem_of_getElem? h2, rfl⟩
  simpa using this

structure QOk (sl : List Slt) (d first : Nat) (T : List (List Job)) : Prop where
  tl : T.length = 2 * 2 ^ d
  nodes : ∀ k S, 1 ≤ k → T[k]? = some S → Node sl d k S
  cnt : sl.length ≤ 16 * 2 ^ d
  d8 : d ≤ 8
  dm : Dm sl
  f1 : first ≤ sl.length
  f2 : ∀ p x, sl[p]? = some x → p < first → x.1 < 0

theorem box4 (w : World) (x y z u : Value) (t : TypeId) : Gr w (w.alloc (Obj.cells #[x, y, z, u] t)) ∧ (w.alloc (Obj.cells #[x, y, z, u] t)).cell? ⟨w.heap.size, 0, none⟩ = some x ∧ (w.alloc (Obj.cells #[x, y, z, u] t)).cell? ⟨w.heap.size, 1, none⟩ = some y ∧ (w.alloc (Obj.cells #[x, y, z, u] t)).cell? ⟨w.heap.size, 2, none⟩ = some z ∧ (w.alloc (Obj.cells #[x, y, z, u] t)).cell? ⟨w.heap.size, 3, none⟩ = some u := by
  refine ⟨Below.alloc (Below.refl _ _) (Nat.le_refl _) _, ?_, ?_, ?_, ?_⟩ <;> simp

/-- none admitted above pos and below X -/
def NoUp (bd : Bd) (sl : List Slt) (pos : Int) (X : Nat) : Prop := ∀ p : Nat, pos < p → p < X → ¬ adP bd sl p

theorem QAt.tree {w : World} {qb qo d first : Nat} {sl : List Slt} {T : List (List Job)} (h : QAt w qb qo sl first T) (hk : QOk sl d first T) :
    ∃ tb toff tc, w.cell? ⟨qb, qo + 7, none⟩ = some (.slice (some ⟨tb, toff, none⟩) (2 * 2 ^ d) tc) ∧ ∀ k, 1 ≤ k → k < 2 * 2 ^ d → ∃ S sa sc, w.cell? ⟨tb, toff + k, none⟩ = some (.slice sa S.length sc) ∧ StepsAt w sa S.length S ∧ Node sl d k S := by
  obtain ⟨a, c, h1, h2⟩ := h.stairs
  have hp := Nat.two_pow_pos d
  have hl := hk.tl
  obtain ⟨tb, toff, a', c', rfl, -⟩ := h2.at' 1 _ (List.getElem?_eq_getElem (by omega))
  refine ⟨tb, toff, c, by rw [← hl]; exact h1, fun k k1 k2 => ?_⟩
  obtain ⟨b, off, sa, sc, e, h3, h4⟩ := h2.at' k _ (List.getElem?_eq_getElem (by omega))
  cases e
  exact ⟨_, sa, sc, h3, h4, hk.nodes k _ k1 (List.getElem?_eq_getElem (by omega))⟩

/-- nothing admitted ahead of the first position that next looks at -/
theorem noUp_first {bd : Bd} {sl : List Slt} {d first : Nat} {T : List (List Job)} (hk : QOk sl d first T) {pos : Int} {fr : Nat} (h : (if pos + 1 < (first : Int) then (first : Int) else pos + 1) = fr) : NoUp bd sl pos fr := by
  rintro p h1 h2 ⟨x, h3, h4, -⟩
  by_cases c : pos + 1 < first
  · rw [if_pos c] at h
    have := hk.f2 p x h3 (by omega)
    omega
  · rw [if_neg c] at h
    omega
theorem noUp_all {bd : Bd} {sl : List Slt} {pos : Int} {X : Nat} (h : NoUp bd sl pos X) (hX : sl.length ≤ X) : IsNext bd sl pos (-1) := by
  refine .inl ⟨rfl, fun p h1 h2 => ?_⟩
  by_cases c : p < X
  · exact h p h1 c h2
  · obtain ⟨x, h3, -⟩ := h2
    have := (List.getElem?_eq_some_iff.1 h3).1
    omega
theorem noUp_ext {bd : Bd} {sl : List Slt} {pos : Int} {X Y : Nat} (h : NoUp bd sl pos X) (hY : ¬ Held (Jn sl X Y) bd) : NoUp bd sl pos Y := by
  intro p h1 h2 h3
  by_cases c : p < X
  · exact h p h1 c h3
  · exact hY ((held_iff bd sl X Y).2 ⟨p, by omega, h2, h3⟩)
theorem noUp_first_in {bd : Bd} {sl : List Slt} {pos : Int} {X Y : Nat} {r : Int} (h : NoUp bd sl pos X) (hX : pos < X) (hF : FirstIn bd sl X Y r) : (r = -1 ∧ NoUp bd sl pos Y) ∨ (∃ q : Nat, r = q ∧ IsNext bd sl pos q) := by
  rcases hF with ⟨e, h1⟩ | ⟨q, e, h1, h2, h3, h4⟩
  · refine .inl ⟨e, fun p h2 h3 h4 => ?_⟩
    by_cases c : p < X
    · exact h p h2 c h4
    · exact h1 p (by omega) h3 h4
  · refine .inr ⟨q, e, .inr ⟨q, rfl, by omega, h3, fun p h5 h6 h7 => ?_⟩⟩
    by_cases c : p < X
    · exact h p h5 c h7
    · exact h4 p (by omega) h6 h7

theorem lvl_log2 {g k : Nat} (h : lvl g k) : k.log2 = g := by
  have h1 := h.1
  have h2 := h.2
  have hp := Nat.two_pow_pos g
  exact (Nat.log2_eq_iff (by omega)).2 ⟨h1, h2⟩
theorem lvl_bound {d g k : Nat} (h : lvl g k) (hg : g ≤ d) : 1 ≤ k ∧ k < 2 * 2 ^ d := by
  have h1 := h.1
  have h2 := h.2
  have hp := Nat.two_pow_pos g
  have := Nat.pow_le_pow_right (show 0 < 2 by omega) (show g + 1 ≤ d + 1 by omega)
  rw [Nat.pow_succ 2 d] at this
  omega
theorem and_test_all : ∀ g : Nat, g < 9 → ∀ k : Nat, k < 512 → 2 ^ g ≤ k → k < 2 ^ (g + 1) → (bits BinOp.and IntKind.i64 ((k : Int) + 1) (k : Int) == 0) = decide (k + 1 = 2 ^ (g + 1)) := by decide +kernel
theorem and_test {g k : Nat} (h : lvl g k) (hg : g ≤ 8) : (bits BinOp.and IntKind.i64 ((k : Int) + 1) (k : Int) == 0) = decide (k + 1 = 2 ^ (g + 1)) := by
  have := (lvl_bound h hg).2
  exact and_test_all g (by omega) k (by omega) h.1 h.2
/-- where a node's search starts -/
def stv (d : Nat) (v : Value) : Nat := 16 * 2 ^ d - st d (Nat.log2 (intOf v).toNat) (intOf v).toNat

set_option maxRecDepth 10000 in
set_option maxHeartbeats 4000000 in
theorem next_any (qb qo : Nat) (bd : Bd) (sl : List Slt) (d first : Nat) (T : List (List Job)) (pos : Int) (w : World) (hq : QAt w qb qo sl first T) (hk : QOk sl d first T) (hp1 : -9223372036854775808 ≤ pos) (hp2 : pos < 9223372036854775807) :
    Calls Try.prog 20 #[.pointer (some ⟨qb, qo, none⟩), .int .i64 pos, .agg #[.int .i64 bd.size, .float .f64 bd.longest, .float .f64 bd.now, .float .f64 bd.fin]] w fun e w' => Gr w w' ∧ ∃ r : Int, e = .returned (.int .i64 r) ∧ IsNext bd sl pos r := by
  obtain ⟨g1, n0, n1, n2, n3⟩ := box4 w (.int .i64 bd.size) (.float .f64 bd.longest) (.float .f64 bd.now) (.float .f64 bd.fin) 62
  obtain ⟨w1, hw⟩ : ∃ w1, w.alloc (Obj.cells #[.int .i64 bd.size, .float .f64 bd.longest, .float .f64 bd.now, .float .f64 bd.fin] 62) = w1 := ⟨_, rfl⟩
  rw [hw] at g1 n0 n1 n2 n3
  have HB := hide (show BdAt w1 w.heap.size 0 bd from ⟨n0, n1, n2, n3⟩)
  have HQ := hide (hq.gr g1)
  have HK := hide hk
  have HG := hide g1
  obtain ⟨n, hne⟩ : ∃ n, sl.length = n := ⟨_, rfl⟩
  have hf := HQ.out.fst
  have ht := HQ.out.tail
  rw [hne] at ht
  have hf1 := hk.f1
  have hcn := hk.cnt
  rw [hne] at hf1 hcn
  obtain ⟨tb, toff, tc, hs, hT⟩ := HQ.out.tree hk
  have HT := hide hT
  obtain ⟨M, hM⟩ : ∃ M, 2 * 2 ^ d = M := ⟨_, rfl⟩
  obtain ⟨B, hB⟩ : ∃ B, 2 ^ d = B := ⟨_, rfl⟩
  have hB1 : B ≤ 256 := by rw [← hB]; exact Nat.pow_le_pow_right (by omega) hk.d8
  have hB0 : 0 < B := by rw [← hB]; exact Nat.two_pow_pos _
  rw [hM] at hs
  rw [hB] at hcn
  have hMB : M = 2 * B := by rw [← hM, hB]
  obtain ⟨fr, hfr⟩ : ∃ fr : Nat, (if pos + 1 < (first : Int) then (first : Int) else pos + 1) = fr := ⟨(if pos + 1 < (first : Int) then (first : Int) else pos + 1).toNat, by split <;> omega⟩
  have HN := hide (noUp_first (bd := bd) hk hfr)
  have hM1 : 1 < M := by omega
  obtain ⟨bu, hbu⟩ : ∃ bu : Nat, (fr : Int) / 16 = bu := ⟨fr / 16, by omega⟩
  obtain ⟨hi, hhi⟩ : ∃ hi : Nat, ((bu : Int) + 1) * 16 = hi := ⟨(bu + 1) * 16, by omega⟩
  have hM2 : (M : Int) / 2 = B := by omega
  obtain ⟨kk, hkk⟩ : ∃ kk : Nat, (bu : Int) + 1 + B = kk := ⟨bu + 1 + B, by omega⟩
  have hpf : pos < fr := by split at hfr <;> omega
  obtain ⟨S1, sa1, sc1, k1, k2, k3⟩ := hT 1 (by omega) (by omega)
  have k3' := k3.held (Nat.zero_le d) (show lvl 0 1 from by unfold lvl; omega)
  rw [show st d 0 1 = 0 by unfold st; simp, st_end d 0 (Nat.zero_le _), hB] at k3'
  have hS1 := k3'.len
  have HS1 := hide k3'
  have HP1 := hide k2
  clear n0 n1 n2 n3 hq hk g1 hT k3 k3' k2
  by_cases c1 : fr < n
  · by_cases c2 : Held (Jn sl 0 (16 * B)) bd
    · have HM := hide hM
      have HMB := hide hMB
      clear hM hMB
      go_enter Try.func20, Try.ntmps20
      go_wp2_with fail
      refine (holds_any _ _ _ _ _ S1 _ bd true _ (by omega) HP1.out HS1.out (fun _ h => h.dom HK.out.dm) HB.out (by simp [c2])).mono ?_
      rintro e2 w2 ⟨rfl, hg2⟩
      have HG2 := hide hg2
      clear hg2
      go_wp2_with fail
      refine (scan_any _ _ _ _ fr hi bd sl first T _ (HQ.out.gr HG2.out) (HB.out.gr HG2.out) (by omega) (by omega)).mono ?_
      rintro e3 w3 ⟨hg3, r, rfl, hF⟩
      have HG3 := hide (HG2.out.trans hg3)
      clear hg3 HG2
      have hs3 := HG3.out.cell hs
      rcases noUp_first_in HN.out hpf hF with ⟨rfl, hN⟩ | ⟨q, rfl, hX⟩
      · have HN3 := hide hN
        clear hN hF HN HP1 HS1
        by_cases c4 : kk = 2 * B
        · have hF := noUp_all HN3.out (show sl.length ≤ hi by omega)
          go_wp2
          go_ret
          exact ⟨HG.out.trans HG3.out, _, rfl, hF⟩
        · have hlv : lvl d kk := by
            unfold lvl
            rw [Nat.pow_succ, hB]
            omega
          have hst : st d d kk = hi := by
            rw [st_leaf, hB]
            omega
          have hfs : fr < st d d kk := by rw [hst]; omega
          rw [← hst] at HN3
          have c4b : ((kk : Int) == 2 * (B : Int)) = false := beq_eq_false_iff_ne.2 (by omega)
          clear c4
          go_wp2_with fail
          clear hs3 c4b hst
          go_loopw [11] (fun kv wr => ∃ k g : Nat, kv = .int .i64 k ∧ lvl g k ∧ g ≤ d ∧ fr < st d g k ∧ Hid (Gr w1 wr) ∧ Hid (NoUp bd sl pos (st d g k))) (fun kv _ => stv d kv)
          case atStart => exact ⟨kk, d, rfl, hlv, Nat.le_refl _, hfs, HG3, HN3⟩
          case round =>
          clear HN3 HG3 hlv hfs
          obtain ⟨k, g, rfl, hl, hg, hfs, HGr, HNr⟩ := hrel
          obtain ⟨wb, rfl⟩ : ∃ wb : World, wb = wr := ⟨_, rfl⟩
          go_wp2_with fail
          go_loopw [11] (fun kv wr => ∃ k' g' : Nat, kv = .int .i64 k' ∧ lvl g' k' ∧ g' ≤ d ∧ wr = wb ∧ st d g' k' = st d g k) (fun kv _ => (intOf kv).toNat)
          case atStart => exact ⟨k, g, rfl, hl, hg, rfl, rfl⟩
          case round =>
          obtain ⟨k', g', rfl, hl', hg', rfl, hst⟩ := hrel
          obtain ⟨hk1, hk2⟩ := lvl_bound hl' hg'
          rw [hB] at hk2
          by_cases c5 : k' % 2 = 0
          · obtain ⟨j, hj⟩ : ∃ j : Nat, (k' : Int) / 2 = j := ⟨k' / 2, by omega⟩
            have hc5 : (k' : Int) % 2 = 0 := by omega
            have hkj : k' = 2 * j := by omega
            obtain ⟨g2, hg2, hl2⟩ := lvl_up (k := j) (by rw [← hkj]; exact hl') (by omega)
            have hst2 : st d g2 j = st d g k := by
              rw [← hst, hg2, hkj]
              exact (st_down d g2 j (by omega)).symm
            have Hst := hide hst2
            have hgd : g2 ≤ d := by omega
            clear hkj hst2 hst hg2
            go_wp2
            refine ⟨⟨j, g2, rfl, hl2, hgd, trivial, Hst⟩, ?_⟩
            simp [intOf]
            omega
          · have hc5 : (k' : Int) % 2 = 1 := by omega
            obtain ⟨S, sa, sc, d1, d2, d3⟩ := HT.out k' hk1 (by rw [hB]; exact hk2)
            have hSt := d3.held hg' hl'
            have hsl := hSt.len
            have e1 := HGr.out.cell hs
            have e2 := HGr.out.cell d1
            have hkM : k' < M := by rw [HMB.out]; exact hk2
            have HSt := hide hSt
            have HD2 := hide (d2.gr HGr.out)
            have HNr' : NoUp bd sl pos (st d g' k') := by rw [hst]; exact HNr.out
            have HNx := hide HNr'
            have Hst := hide hst
            have hfs' : fr < st d g' k' := by rw [hst]; exact hfs
            clear hSt d1 d2 d3 hst HNr' HNr hfs
            by_cases c6 : Held (Jn sl (st d g' k') (st d g' (k' + 1))) bd
            · go_wp2_with fail
              refine (holds_any _ _ _ _ _ S _ bd true _ (by omega) HD2.out HSt.out (fun _ h => h.dom HK.out.dm) (HB.out.gr HGr.out) (by simp [c6])).mono ?_
              rintro e3 w3 ⟨rfl, hg3⟩
              have HG3 := hide (HGr.out.trans hg3)
              clear hg3 HGr HSt HD2 e1 e2
              go_wp2_with fail
              clear hl hg Hst
              go_loopw [11] (fun kv wr => ∃ k2 g2 : Nat, kv = .int .i64 k2 ∧ lvl g2 k2 ∧ g2 ≤ d ∧ fr < st d g2 k2 ∧ Hid (Gr w1 wr) ∧ Hid (NoUp bd sl pos (st d g2 k2)) ∧ Hid (Held (Jn sl (st d g2 k2) (st d g2 (k2 + 1))) bd)) (fun kv _ => M - (intOf kv).toNat)
              case atStart => exact ⟨k', g', rfl, hl', hg', hfs', HG3, HNx, c6⟩
              case round =>
              clear HG3 HNx c6 hl' hg' hk1 hk2 c5 hc5 hkM hfs'
              obtain ⟨k, g, rfl, hl, hg, hfs, HGr, HNr, HHr⟩ := hrel
              obtain ⟨hk1, hk2⟩ := lvl_bound hl hg
              rw [hB] at hk2
              by_cases c8 : k < B
              · have hgd := lvl_inner hg hl (by rw [hB]; exact c8)
                obtain ⟨hla, hlb⟩ := lvl_down hl
                obtain ⟨k2, hk2e⟩ : ∃ k2 : Nat, (k : Int) * 2 = k2 := ⟨k * 2, by omega⟩
                have hk2n : k2 = 2 * k := by omega
                obtain ⟨S, sa, sc, d1, d2, d3⟩ := HT.out k2 (by omega) (by rw [hB]; omega)
                have hSt := d3.held (g := g + 1) (by omega) (by rw [hk2n]; exact hla)
                have hsl := hSt.len
                have e1 := HGr.out.cell hs
                have e2 := HGr.out.cell d1
                have hkM : k2 < M := by rw [HMB.out]; omega
                have HSt := hide hSt
                have HD2 := hide (d2.gr HGr.out)
                have t1 : st d (g + 1) k2 = st d g k := by rw [hk2n]; exact st_down d g k hgd
                have t2 : st d (g + 1) (k2 + 1 + 1) = st d g (k + 1) := by
                  have := st_down d g (k + 1) hgd
                  rw [← this]
                  congr 1
                  omega
                have HN1 : NoUp bd sl pos (st d (g + 1) k2) := by rw [t1]; exact HNr.out
                have HNa := hide HN1
                have hfa : fr < st d (g + 1) k2 := by rw [t1]; exact hfs
                have hfb : fr < st d (g + 1) (k2 + 1) := by have := st_mono d (g + 1) (show k2 ≤ k2 + 1 by omega); omega
                have hla' : lvl (g + 1) k2 := by rw [hk2n]; exact hla
                have hlb' : lvl (g + 1) (k2 + 1) := by rw [hk2n]; exact hlb
                by_cases c9 : Held (Jn sl (st d (g + 1) k2) (st d (g + 1) (k2 + 1))) bd
                · have Hc9 := hide c9
                  clear hSt d1 d2 d3 HN1 t1 t2 hk2n hla hlb HNr HHr hlb'
                  go_wp2_with fail
                  refine (holds_any _ _ _ _ _ S _ bd true _ (by omega) HD2.out HSt.out (fun _ h => h.dom HK.out.dm) (HB.out.gr HGr.out) (by simp [c9])).mono ?_
                  rintro e3 w3 ⟨rfl, hg3⟩
                  have HG3 := hide (HGr.out.trans hg3)
                  clear hg3 HGr HSt HD2 e1 e2 c9
                  go_wp2
                  refine ⟨⟨k2, g + 1, rfl, hla', hgd, hfa, HG3, HNa, Hc9⟩, ?_⟩
                  simp [intOf]
                  omega
                · have HN2 := hide (noUp_ext HN1 c9)
                  have HH2 : Held (Jn sl (st d (g + 1) (k2 + 1)) (st d (g + 1) (k2 + 1 + 1))) bd := by
                    rw [t2]
                    obtain ⟨p, p1, p2, p3⟩ := (held_iff _ _ _ _).1 HHr.out
                    refine (held_iff _ _ _ _).2 ⟨p, ?_, p2, p3⟩
                    refine Nat.le_of_not_lt fun hc => c9 ((held_iff _ _ _ _).2 ⟨p, ?_, hc, p3⟩)
                    rw [t1]; exact p1
                  have HHx := hide HH2
                  clear hSt d1 d2 d3 HN1 t1 t2 hk2n hla hlb HNr HHr HH2 hla'
                  go_wp2_with fail
                  refine (holds_any _ _ _ _ _ S _ bd false _ (by omega) HD2.out HSt.out (fun _ h => h.dom HK.out.dm) (HB.out.gr HGr.out) (by simp [c9])).mono ?_
                  rintro e3 w3 ⟨rfl, hg3⟩
                  have HG3 := hide (HGr.out.trans hg3)
                  clear hg3 HGr HSt HD2 e1 e2 c9
                  go_wp2
                  refine ⟨⟨k2 + 1, g + 1, by go_num, hlb', hgd, hfb, HG3, HN2, HHx⟩, ?_⟩
                  simp [intOf]
                  omega
              · obtain rfl := lvl_leaf hg hl (by rw [hB]; omega)
                obtain ⟨lo2, hlo2⟩ : ∃ lo2 : Nat, ((k : Int) - B) * 16 = lo2 := ⟨(k - B) * 16, by omega⟩
                obtain ⟨hi2, hhi2⟩ : ∃ hi2 : Nat, ((k : Int) - B + 1) * 16 = hi2 := ⟨(k - B + 1) * 16, by omega⟩
                have t1 : st g g k = lo2 := by rw [st_leaf, hB]; omega
                have t2 : st g g (k + 1) = hi2 := by rw [st_leaf, hB]; omega
                rw [t1] at HNr HHr hfs
                rw [t2] at HHr
                clear t1 t2
                go_wp2_with fail
                refine (scan_any _ _ _ _ lo2 hi2 bd sl first T _ (HQ.out.gr HGr.out) (HB.out.gr HGr.out) (by omega) (by omega)).mono ?_
                rintro e3 w3 ⟨hg3, r, rfl, hF⟩
                have HG3 := hide (HGr.out.trans hg3)
                have hX : IsNext bd sl pos r := by
                  rcases hF with ⟨_, h1⟩ | ⟨q, e, h1, h2, h3, h4⟩
                  · obtain ⟨p, p1, p2, p3⟩ := (held_iff _ _ _ _).1 HHr.out
                    exact absurd p3 (h1 p p1 p2)
                  · refine .inr ⟨q, e, ?_, h3, fun p h5 h6 h7 => ?_⟩
                    · omega
                    · by_cases c : p < lo2
                      · exact HNr.out p h5 c h7
                      · exact h4 p (by omega) h6 h7
                clear hg3 hF
                go_wp2
                go_ret
                exact ⟨HG.out.trans HG3.out, _, rfl, hX⟩
            · go_wp2_with fail
              refine (holds_any _ _ _ _ _ S _ bd false _ (by omega) HD2.out HSt.out (fun _ h => h.dom HK.out.dm) (HB.out.gr HGr.out) (by simp [c6])).mono ?_
              rintro e3 w3 ⟨rfl, hg3⟩
              have HG3 := hide (HGr.out.trans hg3)
              have HN3 := hide (noUp_ext HNx.out c6)
              clear hg3 HGr HSt HD2 e1 e2 HNx c6
              have hb7 := and_test hl' (show g' ≤ 8 by have := HK.out.d8; omega)
              by_cases c7 : k' + 1 = 2 ^ (g' + 1)
              · rw [decide_eq_true c7] at hb7
                have hF := noUp_all HN3.out (show sl.length ≤ st d g' (k' + 1) by rw [c7, st_end d g' hg', hB]; omega)
                clear c7 HN3
                go_wp2
                go_ret
                exact ⟨HG.out.trans HG3.out, _, rfl, hF⟩
              · rw [decide_eq_false c7] at hb7
                have hl7 : lvl g' (k' + 1) := ⟨by have := hl'.1; omega, by have := hl'.2; omega⟩
                have hm7 : stv d (.int .i64 (↑(k' + 1) : Int)) < stv d (.int .i64 (k : Int)) := by
                  have t1 := st_lt d g' k' hl'
                  have t2 := st_mono d g' (show k' + 1 ≤ 2 ^ (g' + 1) from by have := hl7.2; omega)
                  rw [st_end d g' hg'] at t2
                  simp only [stv, intOf, Int.toNat_natCast]
                  rw [lvl_log2 hl7, lvl_log2 hl, ← Hst.out]
                  omega
                have Hm7 := hide hm7
                have hf7 : fr < st d g' (k' + 1) := by have := st_mono d g' (show k' ≤ k' + 1 by omega); omega
                clear c7 hm7
                go_wp2
                refine ⟨⟨k' + 1, g', ?_, hl7, hg', hf7, HG3, HN3⟩, ?_⟩
                · go_num
                · rw [show ((k' : Int) + 1) = ((k' + 1 : Nat) : Int) from by omega]
                  exact Hm7
      · clear hF
        go_wp2
        go_ret
        exact ⟨HG.out.trans HG3.out, _, rfl, hX⟩
    · have hF := noUp_all (noUp_ext HN.out (fun ⟨j, hj, h⟩ => c2 ⟨j, by obtain ⟨p, x, _, h2, h3⟩ := hj; exact ⟨p, x, Nat.zero_le _, h2, h3⟩, h⟩)) (show sl.length ≤ 16 * B by omega)
      have HM := hide hM
      have HMB := hide hMB
      clear hM hMB
      go_enter Try.func20, Try.ntmps20
      go_wp2_with fail
      refine (holds_any _ _ _ _ _ S1 _ bd false _ (by omega) HP1.out HS1.out (fun _ h => h.dom HK.out.dm) HB.out (by simp [c2])).mono ?_
      rintro e2 w2 ⟨rfl, hg2⟩
      go_wp2
      go_ret
      exact ⟨HG.out.trans hg2, _, rfl, hF⟩
  · have hF := noUp_all HN.out (show sl.length ≤ fr by omega)
    have HM := hide hM
    have HMB := hide hMB
    clear hM hMB
    go_enter Try.func20, Try.ntmps20
    go_wp2
    go_ret
    exact ⟨HG.out, _, rfl, hF⟩

end Go.Proofs.Qxb6604754a
