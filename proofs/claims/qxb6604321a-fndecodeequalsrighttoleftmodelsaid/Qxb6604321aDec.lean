import Derived.Test.Qxb6604321aBase
namespace Go.Proofs.Qxb6604321a
open Go.RowKit

/-- the unescaper's block: its buffer, then the kept strings -/
def UBlk (w : World) (U : Nat) (v : Value) (ks : List Value) : Prop := w.heap[U]? = some (.cells (v :: ks).toArray 46 (0, 0))
theorem UBlk.cell {w : World} {U : Nat} {v : Value} {ks : List Value} (h : UBlk w U v ks) : w.cell? ⟨U, 0, none⟩ = some v := by
  unfold UBlk at h
  simp [World.cell?, h]
theorem UBlk.cellS {w : World} {U : Nat} {v : Value} {ks : List Value} (h : UBlk w U v ks) (j : Nat) : w.cell? ⟨U, j + 1, none⟩ = ks[j]? := by
  unfold UBlk at h
  simp [World.cell?, h]
theorem UBlk.frozen {w : World} {U : Nat} {v : Value} {ks : List Value} (h : UBlk w U v ks) : w.frozen? ⟨U, 0, none⟩ = false := by
  unfold UBlk at h
  simp [World.frozen?, h]
theorem UBlk.lt {w : World} {U : Nat} {v : Value} {ks : List Value} (h : UBlk w U v ks) : U < w.heap.size := (Array.getElem?_eq_some_iff.1 h).1
theorem UBlk.set {w : World} {U : Nat} {v : Value} {ks : List Value} (h : UBlk w U v ks) (v' : Value) : UBlk (w.setCell ⟨U, 0, none⟩ v') U v' ks := by
  unfold UBlk at h ⊢
  simp only [World.setCell, Array.getElem?_modify, if_true, h, Option.map_some]
  simp
theorem UBlk.kept {w w' : World} {U : Nat} {v : Value} {ks : List Value} (h : UBlk w U v ks) (e : w'.heap[U]? = w.heap[U]?) : UBlk w' U v ks := by
  unfold UBlk at h ⊢; rw [e, h]

def rowOf (a : Option Addr) : Option Nat := a.map (·.block)
theorem ownBlock_slice (a : Option Addr) (n c : Nat) : (Value.slice a n c).ownBlock = rowOf a := by cases a <;> rfl

/-- of w's blocks all but U and r are as they were -/
structure Stays (w w' : World) (U : Nat) (r : Option Nat) : Prop where
  os : w'.os = w.os
  tape : w'.tape = w.tape
  output : w'.output = w.output
  size : w.heap.size ≤ w'.heap.size
  block : ∀ k, k < w.heap.size → k ≠ U → some k ≠ r → w'.heap[k]? = w.heap[k]?
theorem Stays.refl (w : World) (U : Nat) (r : Option Nat) : Stays w w U r := ⟨rfl, rfl, rfl, Nat.le_refl _, fun _ _ _ _ => rfl⟩

theorem row_ne {w : World} {U base n c : Nat} {v : Value} {ks : List Value} {a : Option Addr} {xs : List Value} (h : UBlk w U v ks) (ho : w.ownsRow base 5 1 (.slice a n c) n xs) : some U ≠ rowOf a := by
  rcases ho.2 with ⟨h', _⟩ | ⟨g, cap, cur, h', _, hg, _⟩
  · simp at h'; obtain ⟨rfl, _⟩ := h'; simp [rowOf]
  · simp at h'; obtain ⟨rfl, _⟩ := h'
    intro e
    have e2 : U = g := by simpa [rowOf] using e
    subst e2
    unfold UBlk at h
    rw [h] at hg
    simp at hg

/-- what decode's loop knows of memory -/
structure DRel (w wr : World) (U base : Nat) (r0 : Option Nat) (ks : List Value) (a : Option Addr) (c : Nat) (out : List Int) : Prop where
  blk : UBlk wr U (.slice a out.length c) ks
  own : Owns wr base a out.length c out
  stays : Stays w wr U r0
  row : rowOf a = r0 ∨ ∃ h, rowOf a = some h ∧ w.heap.size ≤ h

theorem DRel.push {w wr w1 : World} {U base : Nat} {r0 : Option Nat} {ks : List Value} {a a' : Option Addr} {c c' : Nat} {out : List Int} {o : Obj} (h : DRel w wr U base r0 ks a c out) (x : Int) (hx : 0 ≤ x ∧ x ≤ 255)
    (hown : w1.ownsRow base 5 1 (.slice a' (out.length + 1) c') (out.length + 1) (out.map (Value.int .u8) ++ [.int .u8 x])) (hg : (wr.alloc o).grownBy w1 (Value.slice a out.length c).ownBlock)
    (hat : (Value.slice a' (out.length + 1) c').ownBlock = (Value.slice a out.length c).ownBlock ∨ (Value.slice a' (out.length + 1) c').ownBlock = some (wr.alloc o).heap.size) :
    DRel w (w1.setCell ⟨U, 0, none⟩ (.slice a' (out.length + 1) c')) U base r0 ks a' c' (out ++ [x]) ∧ w1.cell? ⟨U, 0, none⟩ = some (.slice a out.length c) ∧ w1.frozen? ⟨U, 0, none⟩ = false := by
  obtain ⟨hblk, hown0, hst, hrow⟩ := h
  rw [ownBlock_slice] at hg hat
  rw [ownBlock_slice] at hat
  have hlt := hblk.lt
  have hne := row_ne hblk hown0.1
  have hU1 : UBlk w1 U (.slice a out.length c) ks := hblk.kept (by
    rw [hg.block U (by simp; omega) hne, Below.heap_alloc wr o U hlt])
  have hset := hU1.set (.slice a' (out.length + 1) c')
  have hlen : (out ++ [x]).length = out.length + 1 := by simp
  have hne' := row_ne hU1 hown
  refine ⟨⟨by rw [hlen]; exact hset, ⟨?_, ?_⟩, ?_, ?_⟩, hU1.cell, hU1.frozen⟩
  · rw [hlen]
    refine ⟨by simp, ?_⟩
    rcases hown.2 with hn | ⟨g, cap, cur, hv, hb, hh, r1, r2, r3, r4⟩
    · exact .inl hn
    · refine .inr ⟨g, cap, cur, hv, hb, ?_, r1, r2, r3, by simpa using r4⟩
      rw [Below.heap_setCell _ _ _ _ (by
        intro e
        simp at hv
        obtain ⟨rfl, _⟩ := hv
        exact hne' (by simp [rowOf, e]))]
      exact hh
  · intro y hy
    rcases List.mem_append.1 hy with h | h
    · exact hown0.2 y h
    · have : y = x := by simpa using h
      subst this; exact hx
  · have hs1 := hg.size
    simp at hs1
    refine ⟨hg.os.trans hst.os, hg.tape.trans hst.tape, hg.output.trans hst.output, by simp; have := hst.size; omega, fun k hk hkU hkr => ?_⟩
    have hks := hst.size
    rw [Below.heap_setCell _ _ _ _ (by exact hkU), hg.block k (by simp; omega) ?_, Below.heap_alloc wr o k (by omega)]
    · exact hst.block k hk hkU hkr
    · rcases hrow with e | ⟨h, e, hh⟩
      · rw [e]; exact hkr
      · rw [e]; simp; omega
  · rcases hat with e | e
    · rw [e]; exact hrow
    · refine .inr ⟨_, e, ?_⟩
      have := hst.size
      simp; omega

theorem drel_first {w : World} {U base n0 c0 : Nat} {a0 : Option Addr} {z0 : List Int} {ks : List Value} (hU : UBlk w U (.slice a0 n0 c0) ks) (hown : Owns w base a0 n0 c0 z0) :
    DRel w (w.setCell ⟨U, 0, none⟩ (.slice a0 0 c0)) U base (rowOf a0) ks a0 c0 [] := by
  have hne := row_ne hU hown.1
  refine ⟨hU.set _, ⟨⟨by simp, ?_⟩, by simp⟩, ⟨rfl, rfl, rfl, by simp, fun k hk hkU _ => Below.heap_setCell _ _ _ _ (by exact hkU)⟩, .inl rfl⟩
  rcases hown.1.2 with ⟨hv, hn⟩ | ⟨g, cap, cur, hv, hb, hh, r1, r2, r3, r4⟩
  · simp at hv; obtain ⟨rfl, _, rfl⟩ := hv; exact .inl ⟨rfl, rfl⟩
  · simp at hv; obtain ⟨rfl, rfl⟩ := hv
    refine .inr ⟨g, c0, cur, rfl, hb, ?_, Nat.zero_le _, r2, r3, by simp⟩
    rw [Below.heap_setCell _ _ _ _ (by intro e; exact hne (by simp [rowOf, e]))]
    exact hh

/-- a string's bytes -/
def bytesOf (s : ByteArray) : List Int := s.data.toList.map fun c => (c.toNat : Int)
theorem bytesOf_len (s : ByteArray) : (bytesOf s).length = s.size := by simp [bytesOf]
theorem bytesOf_get (s : ByteArray) (k : Nat) (h : k < s.size) : (bytesOf s).getD k 0 = (s[k].toNat : Int) := by
  have hk : k < s.data.toList.length := by simpa using h
  simp only [bytesOf, List.getD_eq_getElem?_getD, List.getElem?_map, List.getElem?_eq_getElem hk]
  rfl
theorem byte_bd (b : UInt8) : 0 ≤ (b.toNat : Int) ∧ (b.toNat : Int) ≤ 255 := by have := b.toNat_lt; omega

theorem bits_hex (y z : Int) (hy : 0 ≤ y ∧ y ≤ 15) (hz : 0 ≤ z ∧ z ≤ 15) : bits BinOp.or IntKind.u8 (y * 16) z = y * 16 + z := by
  have all : ∀ i j : Fin 16, bits BinOp.or IntKind.u8 ((i.val : Int) * 16) (j.val : Int) = (i.val : Int) * 16 + (j.val : Int) := by decide
  have := all ⟨y.toNat, by omega⟩ ⟨z.toNat, by omega⟩
  simp only at this
  rw [Int.toNat_of_nonneg hy.1, Int.toNat_of_nonneg hz.1] at this
  exact this

set_option maxRecDepth 10000 in
set_option maxHeartbeats 2000000 in
theorem decode_any (U base n0 c0 : Nat) (a0 : Option Addr) (z0 : List Int) (ks : List Value) (s : ByteArray) (plus : Bool) (w : World) (hU : UBlk w U (.slice a0 n0 c0) ks) (hown : Owns w base a0 n0 c0 z0) (hbase : base ≤ w.heap.size) (hs : s.size ≤ 4194304) :
    Calls Try.prog 25 #[.pointer (some ⟨U, 0, none⟩), .string s, .bool plus] w fun e w' => e = .returned (.bool (dec plus (bytesOf s)).2) ∧ ∃ a c, DRel w w' U base (rowOf a0) ks a c (dec plus (bytesOf s)).1 := by
  obtain ⟨i0, hi, hz0, hz1, hz2⟩ := info_parts Try.info5
  have hc0 := hU.cell
  have hf0 := hU.frozen
  have HU := hide hU
  have HO := hide hown
  clear hU hown
  go_enter Try.func25, Try.ntmps25
  go_wp2
  have HF := hide (drel_first HU.out HO.out)
  have hUlt := HU.out.lt
  clear hc0 hf0
  go_loopw [7] (fun i wr => ∃ (k : Nat) (a : Option Addr) (c : Nat) (out : List Int), i = .int .i64 k ∧ k ≤ s.size ∧ DRel w wr U base (rowOf a0) ks a c out ∧ Got plus (bytesOf s) k out) (fun i _ => s.size - (intOf i).toNat)
  case atStart => exact ⟨0, a0, c0, [], rfl, Nat.zero_le _, HF.out, got_start _ _⟩
  case round =>
  obtain ⟨k, a, c, out, rfl, hk, hdr, hgot⟩ := hrel
  have hsl := bytesOf_len s
  by_cases hlt : k < s.size
  · have hcell := hdr.blk.cell
    have hrow := hdr.own.1
    have hfr := hdr.blk.frozen
    have hol := hgot.2.2.1
    have hsz := hdr.stays.size
    obtain ⟨x, hx⟩ : ∃ x : Int, (↑(s[k]'hlt).toNat : Int) = x := ⟨_, rfl⟩
    have hxb := byte_bd (s[k]'hlt)
    rw [hx] at hxb
    obtain ⟨hx0, hx1⟩ := hxb
    have hxg := bytesOf_get s k hlt
    rw [hx] at hxg
    have HX := hide hxg
    have HD := hide hdr
    have HG := hide hgot
    obtain ⟨n, hn⟩ : ∃ n, out.length = n := ⟨_, rfl⟩
    rw [hn] at hcell hrow hol
    have HN := hide hn
    have HSL := hide hsl
    clear hxg hdr hgot hn hsl
    by_cases h37 : x = 37
    · have ht37 : (x == 37) = true := by simp [h37]
      have H37 := hide h37
      clear h37
      by_cases hk2 : k + 2 < s.size
      · obtain ⟨y, hy⟩ : ∃ y : Int, (↑(s[k + 1]'(by omega)).toNat : Int) = y := ⟨_, rfl⟩
        obtain ⟨z, hz⟩ : ∃ z : Int, (↑(s[k + 2]'hk2).toNat : Int) = z := ⟨_, rfl⟩
        have hyb := byte_bd (s[k + 1]'(by omega))
        have hzb := byte_bd (s[k + 2]'hk2)
        have hyg := bytesOf_get s (k + 1) (by omega)
        have hzg := bytesOf_get s (k + 2) hk2
        rw [hy] at hyb hyg
        rw [hz] at hzb hzg
        have HY := hide hyg
        have HZ := hide hzg
        clear hyg hzg
        have hhy := hexN_bd y
        have hhz := hexN_bd z
        obtain ⟨ny, hny⟩ : ∃ ny, hexN y = ny := ⟨_, rfl⟩
        obtain ⟨nz, hnz⟩ : ∃ nz, hexN z = nz := ⟨_, rfl⟩
        have cy := hide (hex_any y wr hyb.1 hyb.2)
        have cz := hide (hex_any z wr hzb.1 hzb.2)
        rw [hny] at hhy cy
        rw [hnz] at hhz cz
        have HNY := hide hny
        have HNZ := hide hnz
        clear hny hnz
        cases hiy : isHex y with
        | false =>
          rw [hiy] at cy
          have HIY := hide hiy
          clear hiy
          go_wp2_with fail
          refine cy.out.mono ?_
          rintro e w2 ⟨rfl, rfl⟩
          go_wp2_with fail
          refine cz.out.mono ?_
          rintro e w2 ⟨rfl, rfl⟩
          go_wp2
          go_ret
          have e := got_bad HG.out (by rw [HSL.out]; exact hk2) (by rw [HX.out, H37.out]) (.inl (by rw [HY.out, HIY.out]))
          rw [e]
          exact ⟨rfl, a, c, HD.out⟩
        | true =>
          cases hiz : isHex z with
          | false =>
            rw [hiy] at cy
            rw [hiz] at cz
            have HIZ := hide hiz
            clear hiy hiz
            go_wp2_with fail
            refine cy.out.mono ?_
            rintro e w2 ⟨rfl, rfl⟩
            go_wp2_with fail
            refine cz.out.mono ?_
            rintro e w2 ⟨rfl, rfl⟩
            go_wp2
            go_ret
            have e := got_bad HG.out (by rw [HSL.out]; exact hk2) (by rw [HX.out, H37.out]) (.inr (by rw [HZ.out, HIZ.out]))
            rw [e]
            exact ⟨rfl, a, c, HD.out⟩
          | true =>
            rw [hiy] at cy
            rw [hiz] at cz
            have HIY := hide hiy
            have HIZ := hide hiz
            obtain ⟨hv, hbits⟩ : ∃ hv, bits BinOp.or IntKind.u8 (ny * 16) nz = hv := ⟨_, rfl⟩
            have HB := hide (hbits.symm.trans (bits_hex ny nz hhy hhz))
            have hvb : 0 ≤ hv ∧ hv ≤ 255 := by rw [HB.out]; omega
            clear hiy hiz
            go_wp2_with fail
            refine cy.out.mono ?_
            rintro e w2 ⟨rfl, rfl⟩
            go_wp2_with fail
            refine cz.out.mono ?_
            rintro e w2 ⟨rfl, rfl⟩
            clear cy cz
            go_wp2_with (at_builtin; refine wpList_append_own_at _ rfl _ _ 22 rfl base 5 i0 (.int .u8 0) 1 1 Try.underlying22 hi hz0 hz1 hz2 rfl (by decide) _ _ _ rfl (hrow.alloc _) ⟨wr.heap.size, 0, none⟩ 1 1 [.int .u8 hv] rfl rfl (cell_one_new _ _ _) (by simp [Value.oneCell']) (by unfold maxLen; omega) (by omega) (by simp; omega) ?_; intro v' w1 hown' hgr hnl hat; clear hnl; obtain ⟨a', c', rfl⟩ := row_form hown'; obtain rfl := HN.out; have HP := hide (HD.out.push hv (by omega) hown' hgr hat); clear hown' hgr hat hrow; have hc1 := HP.out.2.1; have hf1 := HP.out.2.2)
            go_roundw
            case rel =>
              refine ⟨k + 3, a', c', out ++ [hv], by go_num, by omega, HP.out.1, ?_⟩
              have g := got_esc HG.out (by rw [HSL.out]; exact hk2) (by rw [HX.out, H37.out]) (by rw [HY.out, HIY.out]) (by rw [HZ.out, HIZ.out])
              rw [HY.out, HZ.out, HNY.out, HNZ.out, ← HB.out] at g
              exact g
            case measure => simp [intOf]; omega
      · go_wp2
        go_ret
        have e := got_short HG.out (by rw [HSL.out]; exact hlt) (by rw [HSL.out]; exact hk2) (by rw [HX.out, H37.out])
        rw [e]
        exact ⟨rfl, a, c, HD.out⟩
    · have ht37 : (x == 37) = false := by simpa using h37
      have G := hide (got_plain HG.out (by rw [HSL.out]; exact hlt) (by rw [HX.out]; exact h37) (by rw [HX.out]; omega))
      clear h37
      by_cases hpl : plus = true ∧ x = 43
      · have HPL := hide hpl
        obtain ⟨rfl, h43⟩ := hpl
        have ht43 : (x == 43) = true := by simp [h43]
        clear h43
        go_wp2_with (at_builtin; refine wpList_append_own_at _ rfl _ _ 22 rfl base 5 i0 (.int .u8 0) 1 1 Try.underlying22 hi hz0 hz1 hz2 rfl (by decide) _ _ _ rfl (hrow.alloc _) ⟨wr.heap.size, 0, none⟩ 1 1 [.int .u8 32] rfl rfl (cell_one_new _ _ _) (by simp [Value.oneCell']) (by unfold maxLen; omega) (by omega) (by simp; omega) ?_; intro v' w1 hown' hgr hnl hat; clear hnl; obtain ⟨a', c', rfl⟩ := row_form hown'; obtain rfl := HN.out; have HP := hide (HD.out.push 32 (by omega) hown' hgr hat); clear hown' hgr hat hrow; have hc1 := HP.out.2.1; have hf1 := HP.out.2.2)
        go_roundw
        case rel =>
          refine ⟨k + 1, a', c', out ++ [32], by go_num, by omega, HP.out.1, ?_⟩
          have g := G.out
          rw [HX.out, plusOf, if_pos HPL.out] at g
          exact g
        case measure => simp [intOf]; omega
      · have HPL := hide hpl
        by_cases h43 : x = 43
        · have ht43 : (x == 43) = true := by simp [h43]
          obtain rfl : plus = false := by simpa [h43] using hpl
          clear h43 hpl
          go_wp2_with (at_builtin; refine wpList_append_own_at _ rfl _ _ 22 rfl base 5 i0 (.int .u8 0) 1 1 Try.underlying22 hi hz0 hz1 hz2 rfl (by decide) _ _ _ rfl (hrow.alloc _) ⟨wr.heap.size, 0, none⟩ 1 1 [.int .u8 x] rfl rfl (cell_one_new _ _ _) (by simp [Value.oneCell']) (by unfold maxLen; omega) (by omega) (by simp; omega) ?_; intro v' w1 hown' hgr hnl hat; clear hnl; obtain ⟨a', c', rfl⟩ := row_form hown'; obtain rfl := HN.out; have HP := hide (HD.out.push x (by omega) hown' hgr hat); clear hown' hgr hat hrow; have hc1 := HP.out.2.1; have hf1 := HP.out.2.2)
          go_roundw
          case rel =>
            refine ⟨k + 1, a', c', out ++ [x], by go_num, by omega, HP.out.1, ?_⟩
            have g := G.out
            rw [HX.out, plusOf, if_neg HPL.out] at g
            exact g
          case measure => simp [intOf]; omega
        · have ht43 : (x == 43) = false := by simpa using h43
          clear h43 hpl
          go_wp2_with (at_builtin; refine wpList_append_own_at _ rfl _ _ 22 rfl base 5 i0 (.int .u8 0) 1 1 Try.underlying22 hi hz0 hz1 hz2 rfl (by decide) _ _ _ rfl (hrow.alloc _) ⟨wr.heap.size, 0, none⟩ 1 1 [.int .u8 x] rfl rfl (cell_one_new _ _ _) (by simp [Value.oneCell']) (by unfold maxLen; omega) (by omega) (by simp; omega) ?_; intro v' w1 hown' hgr hnl hat; clear hnl; obtain ⟨a', c', rfl⟩ := row_form hown'; obtain rfl := HN.out; have HP := hide (HD.out.push x (by omega) hown' hgr hat); clear hown' hgr hat hrow; have hc1 := HP.out.2.1; have hf1 := HP.out.2.2)
          go_roundw
          case rel =>
            refine ⟨k + 1, a', c', out ++ [x], by go_num, by omega, HP.out.1, ?_⟩
            have g := G.out
            rw [HX.out, plusOf, if_neg HPL.out] at g
            exact g
          case measure => simp [intOf]; omega
  · have HD := hide hdr
    have HG := hide hgot
    clear hdr hgot
    go_wp2
    go_ret
    have e := got_end HG.out (by omega)
    rw [e]
    exact ⟨rfl, a, c, HD.out⟩

end Go.Proofs.Qxb6604321a
