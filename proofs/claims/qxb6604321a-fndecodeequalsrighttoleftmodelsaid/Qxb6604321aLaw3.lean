import Derived.Test.Qxb6604321aRtlPre
namespace Go.Proofs.Qxb6604321a
open Go.RowKit

theorem bytes_extract (s : ByteArray) (k : Nat) : bytesOf (s.extract 0 k) = (bytesOf s).take k := by
  unfold bytesOf
  rw [← List.map_take]
  congr 1
  have : (s.extract 0 k).data = s.data.extract 0 k := by simp
  rw [this]
  simp
theorem size_extract (s : ByteArray) (k : Nat) (h : k ≤ s.size) : (s.extract 0 k).size = k := by
  simp; omega

set_option maxRecDepth 10000 in
set_option maxHeartbeats 2000000 in
theorem law3 (a : Option Addr) (la ca : Nat) (za : List Int) (s0 s1 s2 s3 s4 s5 s6 s7 s : ByteArray) (plus : Bool) (w : World) (Ha : InRow w a la ca za) :
    Calls Try.prog 3 #[.slice a la ca, .agg #[.string s0, .string s1, .string s2, .string s3, .string s4, .string s5, .string s6, .string s7], .string s, .bool plus] w fun e w' => e = .returned (.bool true) ∧ Below w.heap.size w w' := by
  have HA := hide Ha
  clear Ha
  go_enter Try.func3, Try.ntmps3
  go_wp2_with fail
  refine (bytes7 _ _ _ _ _ _ _ _ _ _ _ _ _ _).mono ?_
  rintro e w1 ⟨⟨r, rfl, hr⟩, hbel⟩
  have HK := hide ((kbox_first w s0 s1 s2 s3 s4 s5 s6 s7).below hbel)
  have hb1 : Below w.heap.size w w1 := ((Below.refl _ _).alloc (Nat.le_refl _) _).trans (hbel.mono (by simp))
  clear hbel
  cases r with
  | false =>
    clear hr
    go_wp2
    go_ret
    exact ⟨rfl, hb1⟩
  | true =>
  obtain ⟨hla, hlb⟩ := hr rfl
  clear hr
  obtain ⟨hN, k0, k1, k2, k3, k4, k5, k6, k7⟩ := HK.out
  go_wp2_with fail
  refine (over_any la s.size hla hlb _ _ _ _ _ _ _ _ _).mono ?_
  rintro e w2 ⟨⟨r, rfl, -⟩, hbel⟩
  have HK2 := hide (HK.out.below hbel)
  have hb2 : Below w.heap.size w w2 := hb1.trans (hbel.mono (by omega))
  clear k0 k1 k2 k3 k4 k5 k6 k7 HK hbel hN
  cases r with
  | true =>
    go_wp2
    go_ret
    exact ⟨rfl, hb2⟩
  | false =>
  go_wp2_with fail
  refine (clone_any a la ca za w2 hla (HA.out.below hb2)).mono ?_
  rintro e w3 ⟨a', ca', rfl, hown, hbel⟩
  have HK3 := hide (HK2.out.below hbel)
  have hs2 := hb2.size
  have hN2 := HK2.out.1
  have hb3 : Below w.heap.size w w3 := hb2.trans (hbel.mono (by omega))
  have hs3 := hbel.size
  have HO := hide hown
  have HRA := hide (show ∀ x, a' = some x → w2.heap.size ≤ x.block ∧ x.block < w3.heap.size from own_at hown.1)
  clear hown hbel HK2
  obtain ⟨hN, k0, k1, k2, k3, k4, k5, k6, k7⟩ := HK3.out
  go_wp2_with fail
  refine (new_any a' la ca' _ _ _ _ _ _ _ _ _).mono ?_
  rintro e w4 ⟨rfl, hU, hbel, hs4⟩
  have HK4 := hide (HK3.out.below hbel)
  have hb4 : Below w.heap.size w w4 := hb3.trans (hbel.mono (by omega))
  have HO4 := hide (own_below HO.out.1 hbel)
  have HZA := hide HO.out.2
  have HU := hide hU
  clear k0 k1 k2 k3 k4 k5 k6 k7 hU hbel HK3 HO
  have hdc := zzdecode_any (w3.heap.size + 1) w2.heap.size la ca' a' za (keptV s0 s1 s2 s3 s4 s5 s6 s7) s plus w4 HU.out ⟨HO4.out, HZA.out⟩ (by omega) (by omega)
  obtain ⟨r, hr⟩ : ∃ r, (dec plus (bytesOf s)).2 = r := ⟨_, rfl⟩
  obtain ⟨D, hD⟩ : ∃ D, (dec plus (bytesOf s)).1 = D := ⟨_, rfl⟩
  rw [hr, hD] at hdc
  have HDC := hide hdc
  have HR := hide hr
  have HD := hide hD
  clear hdc hr hD HU HO4
  go_wp2_with fail
  refine HDC.out.mono ?_
  rintro e w5 ⟨rfl, a2, c2, hd⟩
  have hst := hd.stays
  have hsz5 := hst.size
  have hnoN : ∀ j, j < w2.heap.size → w5.heap[j]? = w4.heap[j]? := fun j hj => hst.block j (by omega) (by omega) (by
    cases ha : a' with
    | none => simp [rowOf]
    | some y => have := (HRA.out y ha).1; simp [rowOf]; omega)
  have hb5 : Below w.heap.size w w5 := by
    refine ⟨hst.os.trans hb4.os, hst.tape.trans hb4.tape, hst.output.trans hb4.output, Nat.le_trans hb4.size hst.size, fun j hj => ?_⟩
    rw [← hb4.block j hj]
    exact hnoN j (by omega)
  have hk5 : KBox w5 w.heap.size s0 s1 s2 s3 s4 s5 s6 s7 := by
    obtain ⟨h, h0, h1, h2, h3, h4, h5, h6, h7⟩ := HK4.out
    have e : ∀ o, w5.cell? ⟨w.heap.size, o, none⟩ = w4.cell? ⟨w.heap.size, o, none⟩ := fun o => World.cell?_of_block (a := ⟨w.heap.size, o, none⟩) (hnoN _ hN2)
    exact ⟨by omega, (e 0).trans h0, (e 1).trans h1, (e 2).trans h2, (e 3).trans h3, (e 4).trans h4, (e 5).trans h5, (e 6).trans h6, (e 7).trans h7⟩
  have HU5 := hide hd.blk
  have HB5 := hide hd.own.bytes
  have HX5 := hide (show ∀ x, a2 = some x → x.block < w5.heap.size from fun x hx => (own_at hd.own.1 x hx).2)
  have HK5 := hide hk5
  have hl5 := HU5.out.lt
  clear hd hst hnoN HDC HK4 hk5
  go_wp2_with fail
  refine (fb_any s w5 (by omega)).mono ?_
  rintro e w6 ⟨k, rfl, hfb, rfl⟩
  have hkl : k ≤ s.size := by have := hfb.1; rw [bytesOf_len] at this; exact this
  have hde := dec_fb plus (bytesOf s) k hfb
  have hpg : PG (bytesOf (s.extract 0 k)) := by rw [bytes_extract s k]; exact hfb.good
  have hr : r = decide (k = s.size) := by rw [← HR.out, hde, bytesOf_len]
  have hD2 : (dec plus (bytesOf (s.extract 0 k))).1 = D := by rw [← HD.out, hde, bytes_extract s k]
  obtain ⟨n, hn⟩ : ∃ n, D.length = n := ⟨_, rfl⟩
  have hrtl : ∀ W : World, Calls Try.prog 15 #[.string (s.extract 0 k), .bool plus] W fun e w' => ∃ a c, e = .returned (.slice a n c) ∧ Owns w' W.heap.size a n c D ∧ Below W.heap.size W w' := by
    intro W
    have := rtl_any (s.extract 0 k) plus W (by rw [size_extract s k hkl]; omega) hpg
    rw [hD2, hn] at this
    exact this
  rw [hn] at HU5 HB5
  have hbuf : ∀ W : World, UBlk W (w3.heap.size + 1) (.slice a2 n c2) (keptV s0 s1 s2 s3 s4 s5 s6 s7) → Calls Try.prog 14 #[.pointer (some ⟨w3.heap.size + 1, 0, none⟩)] W fun e w' => e = .returned (.slice a2 n c2) ∧ W = w' := fun W h => buf_any _ _ _ _ _ _ h
  have HRTL := hide hrtl
  have HBUF := hide hbuf
  have htest : (!(r == ((k : Int) == (s.size : Int)))) = false := by
    rw [hr]
    by_cases e : k = s.size
    · simp [e]
    · have e2 : ¬ (k : Int) = (s.size : Int) := by omega
      simp [e, e2]
  clear hrtl hbuf hfb hde hpg hr hD2 hn HR HD HZA
  go_wp2
  go_region_with (first
    | (go_at_call 14; refine (HBUF.out _ (by first | exact HU5.out | exact HU6.out)).mono ?_; rintro e w9 ⟨rfl, rfl⟩)
    | (go_at_call 15; refine (HRTL.out _).mono ?_; rintro e w6 ⟨a3, c3, rfl, hown, hbel⟩; have HU6 := hide (HU5.out.kept (hbel.block _ hl5)); have HS6 := hide hown.bytes; have HT6 := hide (HB5.out.same (fun x hx o => hbel.cell (p := ⟨x.block, o, none⟩) (HX5.out x hx))); clear hown)
    | (go_at_call 13; refine (same_any _ _ _ _ _ D _ HT6.out HS6.out).mono ?_; rintro e w9 ⟨rfl, nn, rfl⟩))
  all_goals
    have hk6 : KBox w6 w.heap.size s0 s1 s2 s3 s4 s5 s6 s7 := KBox.below (w := w5.drew) HK5.out hbel
    have hb6 : Below w.heap.size w w6 := hb5.trans (Below.mono (w := w5) ⟨hbel.os, hbel.tape, hbel.output, hbel.size, hbel.block⟩ (by have := hb5.size; exact this))
    have HK6 := hide hk6
    obtain ⟨hN6, k0, k1, k2, k3, k4, k5, k6, k7⟩ := hk6
    have heq := eq_kept s0 s1 s2 s3 s4 s5 s6 s7
    have hs6 := hb6.size
    clear hbel
    go_wp2
    go_region_with (go_at_call 16; refine (kept_any (w3.heap.size + 1) (.slice a2 n c2) s0 s1 s2 s3 s4 s5 s6 s7 _ (by exact HU6.out)).mono ?_; rintro e w7 ⟨rfl, hb7⟩; obtain ⟨hN7, j0, j1, j2, j3, j4, j5, j6, j7⟩ := (HK6.out.below (w := w6) (w' := w7) ⟨hb7.os, hb7.tape, hb7.output, hb7.size, hb7.block⟩))
    all_goals
      go_wp2
      go_ret
      exact ⟨rfl, hb6.trans (Below.mono (w := w6) ⟨hb7.os, hb7.tape, hb7.output, hb7.size, hb7.block⟩ (by exact hs6))⟩

end Go.Proofs.Qxb6604321a
