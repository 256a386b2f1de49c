import Derived.Test.YtnfjmngchapdnaaMLTake
import Derived.Test.YtnfjmngchapdnaaMClone2
import Derived.Test.YtnfjmngchapdnaaMPo0
import Derived.Test.YtnfjmngchapdnaaMBCheck
import Derived.Test.YtnfjmngchapdnaaMPubIs
/- laws.bIs. -/
namespace Go.Proofs.Ytnfjmngchapdnaa
open Go.RowKit

set_option maxRecDepth 100000 in
set_option maxHeartbeats 2000000 in
theorem bIs_any {w : World} {v : Value} {x : Nat} {k : Nat} {a2 : Option Addr} {n2 c2 : Nat} (h : SlV w v x) (h2 : Num k w a2 n2 c2 x) (hk : k ≤ 400) :
    Calls Try.prog 12 #[v, .slice a2 n2 c2] w fun e w' => e = .returned (.bool true) ∧ Keeps [] w w' := by
  obtain ⟨a, n, c, L, rfl, h1, rfl, hn⟩ := h
  have hc := convert_strB h1
  have H1 := Lib.hid h1; have H2 := Lib.hid h2
  clear h1 h2
  go_enter Try.func12, Try.ntmps12
  go_wp2_with fail
  refine (num_of H1.out hn).mono ?_
  rintro e w1 ⟨⟨a1, n1, c1, rfl, hx⟩, hs⟩
  clear hc
  have HX := Lib.hid hx; have HS := Lib.hid hs
  clear hx hs
  go_wp2_with fail
  refine (num_eq HX.out (H2.out.kept HS.out) (by omega) (by omega) rfl).mono ?_
  rintro e w2 ⟨rfl, hs⟩
  replace HS := Lib.hid (HS.out.trans1 hs)
  clear hs
  go_wp2
  go_ret
  exact ⟨rfl, HS.out⟩

end Go.Proofs.Ytnfjmngchapdnaa

/- laws.FnBCheck, way 0. -/
namespace Go.Proofs.Ytnfjmngchapdnaa
open Go.RowKit

set_option maxRecDepth 1000000 in
set_option maxHeartbeats 8000000 in
theorem fnBCheck_0 (k : KA) (y : Nat) (hy : y < 256) (hw : y % 3 = 0) (w : World) (hk : k.is w) :
    Calls Try.prog 4 #[.agg #[.slice k.a1 k.m1 k.c1, .int .i64 k.E, .slice k.a2 k.m2 k.c2, .slice k.a3 k.m3 k.c3, .slice k.a4 k.m4 k.c4, .slice k.a5 k.m5 k.c5, .slice k.a6 k.m6 k.c6, .slice k.a7 k.m7 k.c7], .int .u8 (y : Int)] w fun e w' => e = .returned (.bool true) ∧ Keeps [] w w' := by
  have hb0 := alloc_blk w (.cells #[.slice k.a1 k.m1 k.c1, .int .i64 k.E, .slice k.a2 k.m2 k.c2, .slice k.a3 k.m3 k.c3, .slice k.a4 k.m4 k.c4, .slice k.a5 k.m5 k.c5, .slice k.a6 k.m6 k.c6, .slice k.a7 k.m7 k.c7] 24)
  have hk0 : Keeps [] w (w.alloc (.cells #[.slice k.a1 k.m1 k.c1, .int .i64 k.E, .slice k.a2 k.m2 k.c2, .slice k.a3 k.m3 k.c3, .slice k.a4 k.m4 k.c4, .slice k.a5 k.m5 k.c5, .slice k.a6 k.m6 k.c6, .slice k.a7 k.m7 k.c7] 24)) := (Keeps.refl _ _).alloc _
  obtain ⟨wa, hwa⟩ : ∃ wa, wa = w.alloc (.cells #[.slice k.a1 k.m1 k.c1, .int .i64 k.E, .slice k.a2 k.m2 k.c2, .slice k.a3 k.m3 k.c3, .slice k.a4 k.m4 k.c4, .slice k.a5 k.m5 k.c5, .slice k.a6 k.m6 k.c6, .slice k.a7 k.m7 k.c7] 24) := ⟨_, rfl⟩
  rw [← hwa] at hb0 hk0
  have HKB := Lib.hid hb0; have HK := Lib.hid hk0; have HI := Lib.hid (hk.kept hk0)
  obtain ⟨k0, k1, k2, k3, k4, k5, k6, k7⟩ := key8 hb0
  have hWi : (y : Int) % 3 = 0 := by omega
  clear hb0 hk0 hk
  go_enter Try.func4, Try.ntmps4
  go_wp2_with fail
  rw [← hwa]
  clear hwa
  refine (zzFits4_any k.E k.a1 k.a2 k.a3 k.a4 k.a5 k.a6 k.a7 k.m1 k.c1 k.m2 k.c2 k.m3 k.c3 k.m4 k.c4 k.m5 k.c5 k.m6 k.c6 k.m7 k.c7 _).mono ?_
  rintro e wb ⟨⟨v, rfl, r, rfl⟩, hs⟩
  clear k0 k1 k2 k3 k4 k5 k6 k7
  replace HKB := Lib.hid (blk_keeps HKB.out hs (by simp)); replace HK := Lib.hid (HK.out.trans1 hs); replace HI := Lib.hid (HI.out.kept hs)
  clear hs
  obtain ⟨k0, k1, k2, k3, k4, k5, k6, k7⟩ := key8 HKB.out
  cases r
  · go_wp2
    go_ret
    exact ⟨rfl, HK.out⟩
  have hs : Keeps [] wb (wb.alloc (.cells #[.slice k.a1 k.m1 k.c1, .slice k.a2 k.m2 k.c2, .slice k.a3 k.m3 k.c3, .slice k.a4 k.m4 k.c4, .slice k.a5 k.m5 k.c5, .slice k.a6 k.m6 k.c6, .slice k.a7 k.m7 k.c7] 22)) := (Keeps.refl _ _).alloc _
  have hct : ∀ i, i < 7 → (wb.alloc (.cells #[.slice k.a1 k.m1 k.c1, .slice k.a2 k.m2 k.c2, .slice k.a3 k.m3 k.c3, .slice k.a4 k.m4 k.c4, .slice k.a5 k.m5 k.c5, .slice k.a6 k.m6 k.c6, .slice k.a7 k.m7 k.c7] 22)).cell? ⟨wb.heap.size, i, none⟩ = some (.slice ([k.a1, k.a2, k.a3, k.a4, k.a5, k.a6, k.a7].getD i none) ([k.m1, k.m2, k.m3, k.m4, k.m5, k.m6, k.m7].getD i 0) ([k.c1, k.c2, k.c3, k.c4, k.c5, k.c6, k.c7].getD i 0)) := by
    intro i hi
    obtain rfl | rfl | rfl | rfl | rfl | rfl | rfl : i = 0 ∨ i = 1 ∨ i = 2 ∨ i = 3 ∨ i = 4 ∨ i = 5 ∨ i = 6 := by omega
    all_goals (rw [alloc_cell]; rfl)
  have hst : ∀ i, i < 7 → SlB (wb.alloc (.cells #[.slice k.a1 k.m1 k.c1, .slice k.a2 k.m2 k.c2, .slice k.a3 k.m3 k.c3, .slice k.a4 k.m4 k.c4, .slice k.a5 k.m5 k.c5, .slice k.a6 k.m6 k.c6, .slice k.a7 k.m7 k.c7] 22)) ([k.a1, k.a2, k.a3, k.a4, k.a5, k.a6, k.a7].getD i none) ([k.m1, k.m2, k.m3, k.m4, k.m5, k.m6, k.m7].getD i 0) ([k.c1, k.c2, k.c3, k.c4, k.c5, k.c6, k.c7].getD i 0) ([k.L1, k.L2, k.L3, k.L4, k.L5, k.L6, k.L7].getD i []) := by
    intro i hi
    obtain rfl | rfl | rfl | rfl | rfl | rfl | rfl : i = 0 ∨ i = 1 ∨ i = 2 ∨ i = 3 ∨ i = 4 ∨ i = 5 ∨ i = 6 := by omega
    · exact HI.out.s1.kept hs
    · exact HI.out.s2.kept hs
    · exact HI.out.s3.kept hs
    · exact HI.out.s4.kept hs
    · exact HI.out.s5.kept hs
    · exact HI.out.s6.kept hs
    · exact HI.out.s7.kept hs
  have HCT := Lib.hid hct; have HST := Lib.hid hst; have HS := Lib.hid hs
  clear hct hst hs
  go_wp2_with fail
  refine (bTidy_any wb.heap.size 7 7 _ _ _ _ _ (by omega) HCT.out HST.out).mono ?_
  rintro e wc ⟨⟨b, rfl, hb⟩, rfl⟩
  clear k0 k1 k2 k3 k4 k5 k6 k7
  replace HKB := Lib.hid (blk_keeps HKB.out HS.out (by simp)); replace HK := Lib.hid (HK.out.trans1 HS.out); replace HI := Lib.hid (HI.out.kept HS.out)
  cases b
  · clear hb HCT HST
    go_wp2_with fail
    refine (bAwake_any _).mono ?_
    rintro e wz ⟨rfl, hz⟩
    replace HK := Lib.hid (HK.out.trans1 hz)
    clear hz
    go_wp2
    go_ret
    exact ⟨rfl, HK.out⟩
  have ht := hb.1 rfl
  have HT : Hid k.tidy := Lib.hid ⟨ht 0 (by omega), ht 1 (by omega), ht 2 (by omega), ht 3 (by omega), ht 4 (by omega), ht 5 (by omega), ht 6 (by omega)⟩
  clear hb ht HCT HST HS
  obtain ⟨wd, hwd⟩ : ∃ wd, wd = wb.alloc (.cells #[.slice k.a1 k.m1 k.c1, .slice k.a2 k.m2 k.c2, .slice k.a3 k.m3 k.c3, .slice k.a4 k.m4 k.c4, .slice k.a5 k.m5 k.c5, .slice k.a6 k.m6 k.c6, .slice k.a7 k.m7 k.c7] 22) := ⟨_, rfl⟩
  rw [← hwd] at HKB HK HI
  rw [← hwd]
  clear hwd
  obtain ⟨k0, k1, k2, k3, k4, k5, k6, k7⟩ := key8 HKB.out
  go_wp2_with fail
  refine (privOf_primes k _ HI.out HT.out).mono ?_
  rintro e we ⟨⟨a0, a1, a2, a3, a4, a5, a6, n0, c0, n1, c1, n2, c2, n3, c3, n4, c4, n5, c5, n6, c6, bi, bs, rfl, hbs, hbi, hnum⟩, hs⟩
  clear k0 k1 k2 k3 k4 k5 k6 k7
  replace HKB := Lib.hid (blk_keeps HKB.out hs (by simp)); replace HK := Lib.hid (HK.out.trans1 hs); replace HI := Lib.hid (HI.out.kept hs)
  have HBS := Lib.hid hbs; have HBI := Lib.hid hbi; have HNUM := Lib.hid hnum
  clear hs hbs hbi hnum
  have hx0 := alloc_blk we (.cells #[.slice a0 n0 c0, .slice a1 n1 c1, .slice a2 n2 c2, .slice a3 n3 c3, .slice a4 n4 c4, .slice a5 n5 c5, .slice a6 n6 c6] 31)
  have hk1 : Keeps [] we (we.alloc (.cells #[.slice a0 n0 c0, .slice a1 n1 c1, .slice a2 n2 c2, .slice a3 n3 c3, .slice a4 n4 c4, .slice a5 n5 c5, .slice a6 n6 c6] 31)) := (Keeps.refl _ _).alloc _
  obtain ⟨wX, hwX⟩ : ∃ wX, wX = (we.alloc (.cells #[.slice a0 n0 c0, .slice a1 n1 c1, .slice a2 n2 c2, .slice a3 n3 c3, .slice a4 n4 c4, .slice a5 n5 c5, .slice a6 n6 c6] 31)) := ⟨_, rfl⟩
  rw [← hwX] at hx0 hk1
  have HX := Lib.hid hx0; have HKX := Lib.hid hk1; have HWX := Lib.hid hwX
  clear hx0 hk1 hwX
  go_upto_region 7 with fail
  rw [← HWX.out]
  cases bs
  · replace HK := Lib.hid (HK.out.trans1 HKX.out)
    go_wp2_with fail
    refine (bAwake_any _).mono ?_
    rintro e wz ⟨rfl, hz⟩
    replace HK := Lib.hid (HK.out.trans1 hz)
    clear hz
    go_wp2
    go_ret
    exact ⟨rfl, HK.out⟩
  have hkb := blk_keeps HKB.out HKX.out (by simp)
  obtain ⟨k0, k1, k2, k3, k4, k5, k6, k7⟩ := key8 hkb
  have HKB2 := Lib.hid hkb; have HI2 := Lib.hid (HI.out.kept HKX.out); have HK2 := Lib.hid (HK.out.trans1 HKX.out)
  clear hkb
  have HOK : Hid (bi = true ↔ PrimesOk (bval k.L1) k.E (bval k.L2) (bval k.L3) (bval k.L4)) := Lib.hid (HBI.out)
  cases bi
  · have HNO : Hid (¬ PrimesOk (bval k.L1) k.E (bval k.L2) (bval k.L3) (bval k.L4)) := Lib.hid fun h => by have := HOK.out.2 h; simp at this
    go_wp2_with fail
    clear k0 k1 k2 k3 k4 k5 k6 k7
    refine (bCheck_primes k _ HI2.out HT.out).mono ?_
    rintro e wf ⟨⟨hok, _⟩ | ⟨_, rfl⟩, hs⟩
    · exact absurd hok HNO.out
    replace HK2 := Lib.hid (HK2.out.trans1 hs)
    have hk1 : Keeps [] wf (wf.alloc (.cells #[.slice none 0 0, .int .i64 0, .slice none 0 0, .slice none 0 0, .slice none 0 0, .slice none 0 0, .slice none 0 0, .slice none 0 0] 24)) := (Keeps.refl _ _).alloc _
    obtain ⟨wY, hwY⟩ : ∃ wY, wY = (wf.alloc (.cells #[.slice none 0 0, .int .i64 0, .slice none 0 0, .slice none 0 0, .slice none 0 0, .slice none 0 0, .slice none 0 0, .slice none 0 0] 24)) := ⟨_, rfl⟩
    rw [← hwY] at hk1
    have HKY := Lib.hid hk1; have HWY := Lib.hid hwY
    clear hs hk1 hwY
    go_wp2_with fail
    rw [← HWY.out]
    replace HK2 := Lib.hid (HK2.out.trans1 HKY.out)
    refine (bAwake_any _).mono ?_
    rintro e wz ⟨rfl, hz⟩
    replace HK2 := Lib.hid (HK2.out.trans1 hz)
    clear hz
    go_wp2
    go_ret
    exact ⟨rfl, HK2.out⟩
  have HOKK := Lib.hid (HOK.out.1 rfl)
  go_wp2_with fail
  clear k0 k1 k2 k3 k4 k5 k6 k7
  refine (bCheck_primes k _ HI2.out HT.out).mono ?_
  rintro e wf ⟨⟨_, v1, v2, v3, v4, v5, v6, v7, rfl, g1, g2, g3, g4, g5, g6, g7⟩ | ⟨hno, _⟩, hs⟩
  rotate_left
  · exact absurd HOKK.out hno
  have G1 := Lib.hid g1
  obtain ⟨b1, l1, d1, _, rfl, _⟩ := g1
  have G2 := Lib.hid g2
  obtain ⟨b2, l2, d2, _, rfl, _⟩ := g2
  have G3 := Lib.hid g3
  obtain ⟨b3, l3, d3, _, rfl, _⟩ := g3
  have G4 := Lib.hid g4
  obtain ⟨b4, l4, d4, _, rfl, _⟩ := g4
  have G5 := Lib.hid g5
  obtain ⟨b5, l5, d5, _, rfl, _⟩ := g5
  have G6 := Lib.hid g6
  obtain ⟨b6, l6, d6, _, rfl, _⟩ := g6
  have G7 := Lib.hid g7
  obtain ⟨b7, l7, d7, _, rfl, _⟩ := g7
  have hg0 := alloc_blk wf (.cells #[.slice b1 l1 d1, .int .i64 k.E, .slice b2 l2 d2, .slice b3 l3 d3, .slice b4 l4 d4, .slice b5 l5 d5, .slice b6 l6 d6, .slice b7 l7 d7] 24)
  have hk1 : Keeps [] wf (wf.alloc (.cells #[.slice b1 l1 d1, .int .i64 k.E, .slice b2 l2 d2, .slice b3 l3 d3, .slice b4 l4 d4, .slice b5 l5 d5, .slice b6 l6 d6, .slice b7 l7 d7] 24)) := (Keeps.refl _ _).alloc _
  obtain ⟨wY, hwY⟩ : ∃ wY, wY = (wf.alloc (.cells #[.slice b1 l1 d1, .int .i64 k.E, .slice b2 l2 d2, .slice b3 l3 d3, .slice b4 l4 d4, .slice b5 l5 d5, .slice b6 l6 d6, .slice b7 l7 d7] 24)) := ⟨_, rfl⟩
  rw [← hwY] at hg0 hk1
  have HG := Lib.hid hg0; have HKY := Lib.hid hk1; have HWY := Lib.hid hwY
  have hs2 := hs.trans1 hk1
  have HXN := Lib.hid (HNUM.out (HOKK.out))
  replace HKB := Lib.hid (blk_keeps HKB2.out hs2 (by simp)); replace HX := Lib.hid (blk_keeps HX.out hs2 (by simp)); replace HK := Lib.hid (HK2.out.trans1 hs2)
  have hs3 := HKX.out.trans1 hs2
  have N0 := Lib.hid (HXN.out.1.kept hs3)
  have N1 := Lib.hid (HXN.out.2.1.kept hs3)
  have N2 := Lib.hid (HXN.out.2.2.1.kept hs3)
  have N3 := Lib.hid (HXN.out.2.2.2.1.kept hs3)
  have N4 := Lib.hid (HXN.out.2.2.2.2.1.kept hs3)
  have N5 := Lib.hid (HXN.out.2.2.2.2.2.1.kept hs3)
  have N6 := Lib.hid (HXN.out.2.2.2.2.2.2.kept hs3)
  replace G1 := Lib.hid (G1.out.kept hk1)
  replace G2 := Lib.hid (G2.out.kept hk1)
  replace G3 := Lib.hid (G3.out.kept hk1)
  replace G4 := Lib.hid (G4.out.kept hk1)
  replace G5 := Lib.hid (G5.out.kept hk1)
  replace G6 := Lib.hid (G6.out.kept hk1)
  replace G7 := Lib.hid (G7.out.kept hk1)
  clear hg0 hk1 hwY hs2 hs3 hs HXN HNUM
  obtain ⟨k0, k1, k2, k3, k4, k5, k6, k7⟩ := key8 HKB.out
  obtain ⟨x0, x1, x2, x3, x4, x5, x6⟩ := key7 HX.out
  obtain ⟨y0, y1, y2, y3, y4, y5, y6, y7⟩ := key8 HG.out
  have y1' := y1
  go_upto_region 10 with fail
  rw [← HWY.out]
  clear y1'
  go_wp2_with fail
  refine (bIs_any G1.out N0.out (by omega)).mono ?_
  rintro e wn ⟨rfl, hs⟩
  clear k0 k1 k2 k3 k4 k5 k6 k7 x0 x1 x2 x3 x4 x5 x6 y0 y1 y2 y3 y4 y5 y6 y7
  replace HKB := Lib.hid (blk_keeps HKB.out hs (by simp)); replace HX := Lib.hid (blk_keeps HX.out hs (by simp)); replace HG := Lib.hid (blk_keeps HG.out hs (by simp)); replace HK := Lib.hid (HK.out.trans1 hs)
  replace N0 := Lib.hid (N0.out.kept hs); replace N1 := Lib.hid (N1.out.kept hs); replace N2 := Lib.hid (N2.out.kept hs); replace N3 := Lib.hid (N3.out.kept hs); replace N4 := Lib.hid (N4.out.kept hs); replace N5 := Lib.hid (N5.out.kept hs); replace N6 := Lib.hid (N6.out.kept hs); replace G1 := Lib.hid (G1.out.kept hs); replace G2 := Lib.hid (G2.out.kept hs); replace G3 := Lib.hid (G3.out.kept hs); replace G4 := Lib.hid (G4.out.kept hs); replace G5 := Lib.hid (G5.out.kept hs); replace G6 := Lib.hid (G6.out.kept hs); replace G7 := Lib.hid (G7.out.kept hs)
  clear hs
  obtain ⟨wm, rfl⟩ : ∃ wm, wm = wn := ⟨_, rfl⟩
  obtain ⟨k0, k1, k2, k3, k4, k5, k6, k7⟩ := key8 HKB.out
  obtain ⟨x0, x1, x2, x3, x4, x5, x6⟩ := key7 HX.out
  obtain ⟨y0, y1, y2, y3, y4, y5, y6, y7⟩ := key8 HG.out
  go_wp2_with fail
  refine (bIs_any G2.out N1.out (by omega)).mono ?_
  rintro e wn ⟨rfl, hs⟩
  clear k0 k1 k2 k3 k4 k5 k6 k7 x0 x1 x2 x3 x4 x5 x6 y0 y1 y2 y3 y4 y5 y6 y7
  replace HKB := Lib.hid (blk_keeps HKB.out hs (by simp)); replace HX := Lib.hid (blk_keeps HX.out hs (by simp)); replace HG := Lib.hid (blk_keeps HG.out hs (by simp)); replace HK := Lib.hid (HK.out.trans1 hs)
  replace N0 := Lib.hid (N0.out.kept hs); replace N1 := Lib.hid (N1.out.kept hs); replace N2 := Lib.hid (N2.out.kept hs); replace N3 := Lib.hid (N3.out.kept hs); replace N4 := Lib.hid (N4.out.kept hs); replace N5 := Lib.hid (N5.out.kept hs); replace N6 := Lib.hid (N6.out.kept hs); replace G1 := Lib.hid (G1.out.kept hs); replace G2 := Lib.hid (G2.out.kept hs); replace G3 := Lib.hid (G3.out.kept hs); replace G4 := Lib.hid (G4.out.kept hs); replace G5 := Lib.hid (G5.out.kept hs); replace G6 := Lib.hid (G6.out.kept hs); replace G7 := Lib.hid (G7.out.kept hs)
  clear hs
  obtain ⟨wm, rfl⟩ : ∃ wm, wm = wn := ⟨_, rfl⟩
  obtain ⟨k0, k1, k2, k3, k4, k5, k6, k7⟩ := key8 HKB.out
  obtain ⟨x0, x1, x2, x3, x4, x5, x6⟩ := key7 HX.out
  obtain ⟨y0, y1, y2, y3, y4, y5, y6, y7⟩ := key8 HG.out
  go_wp2_with fail
  refine (bIs_any G3.out N2.out (by omega)).mono ?_
  rintro e wn ⟨rfl, hs⟩
  clear k0 k1 k2 k3 k4 k5 k6 k7 x0 x1 x2 x3 x4 x5 x6 y0 y1 y2 y3 y4 y5 y6 y7
  replace HKB := Lib.hid (blk_keeps HKB.out hs (by simp)); replace HX := Lib.hid (blk_keeps HX.out hs (by simp)); replace HG := Lib.hid (blk_keeps HG.out hs (by simp)); replace HK := Lib.hid (HK.out.trans1 hs)
  replace N0 := Lib.hid (N0.out.kept hs); replace N1 := Lib.hid (N1.out.kept hs); replace N2 := Lib.hid (N2.out.kept hs); replace N3 := Lib.hid (N3.out.kept hs); replace N4 := Lib.hid (N4.out.kept hs); replace N5 := Lib.hid (N5.out.kept hs); replace N6 := Lib.hid (N6.out.kept hs); replace G1 := Lib.hid (G1.out.kept hs); replace G2 := Lib.hid (G2.out.kept hs); replace G3 := Lib.hid (G3.out.kept hs); replace G4 := Lib.hid (G4.out.kept hs); replace G5 := Lib.hid (G5.out.kept hs); replace G6 := Lib.hid (G6.out.kept hs); replace G7 := Lib.hid (G7.out.kept hs)
  clear hs
  obtain ⟨wm, rfl⟩ : ∃ wm, wm = wn := ⟨_, rfl⟩
  obtain ⟨k0, k1, k2, k3, k4, k5, k6, k7⟩ := key8 HKB.out
  obtain ⟨x0, x1, x2, x3, x4, x5, x6⟩ := key7 HX.out
  obtain ⟨y0, y1, y2, y3, y4, y5, y6, y7⟩ := key8 HG.out
  go_wp2_with fail
  refine (bIs_any G4.out N3.out (by omega)).mono ?_
  rintro e wn ⟨rfl, hs⟩
  clear k0 k1 k2 k3 k4 k5 k6 k7 x0 x1 x2 x3 x4 x5 x6 y0 y1 y2 y3 y4 y5 y6 y7
  replace HKB := Lib.hid (blk_keeps HKB.out hs (by simp)); replace HX := Lib.hid (blk_keeps HX.out hs (by simp)); replace HG := Lib.hid (blk_keeps HG.out hs (by simp)); replace HK := Lib.hid (HK.out.trans1 hs)
  replace N0 := Lib.hid (N0.out.kept hs); replace N1 := Lib.hid (N1.out.kept hs); replace N2 := Lib.hid (N2.out.kept hs); replace N3 := Lib.hid (N3.out.kept hs); replace N4 := Lib.hid (N4.out.kept hs); replace N5 := Lib.hid (N5.out.kept hs); replace N6 := Lib.hid (N6.out.kept hs); replace G1 := Lib.hid (G1.out.kept hs); replace G2 := Lib.hid (G2.out.kept hs); replace G3 := Lib.hid (G3.out.kept hs); replace G4 := Lib.hid (G4.out.kept hs); replace G5 := Lib.hid (G5.out.kept hs); replace G6 := Lib.hid (G6.out.kept hs); replace G7 := Lib.hid (G7.out.kept hs)
  clear hs
  obtain ⟨wm, rfl⟩ : ∃ wm, wm = wn := ⟨_, rfl⟩
  obtain ⟨k0, k1, k2, k3, k4, k5, k6, k7⟩ := key8 HKB.out
  obtain ⟨x0, x1, x2, x3, x4, x5, x6⟩ := key7 HX.out
  obtain ⟨y0, y1, y2, y3, y4, y5, y6, y7⟩ := key8 HG.out
  go_wp2_with fail
  refine (bIs_any G5.out N4.out (by omega)).mono ?_
  rintro e wn ⟨rfl, hs⟩
  clear k0 k1 k2 k3 k4 k5 k6 k7 x0 x1 x2 x3 x4 x5 x6 y0 y1 y2 y3 y4 y5 y6 y7
  replace HKB := Lib.hid (blk_keeps HKB.out hs (by simp)); replace HX := Lib.hid (blk_keeps HX.out hs (by simp)); replace HG := Lib.hid (blk_keeps HG.out hs (by simp)); replace HK := Lib.hid (HK.out.trans1 hs)
  replace N0 := Lib.hid (N0.out.kept hs); replace N1 := Lib.hid (N1.out.kept hs); replace N2 := Lib.hid (N2.out.kept hs); replace N3 := Lib.hid (N3.out.kept hs); replace N4 := Lib.hid (N4.out.kept hs); replace N5 := Lib.hid (N5.out.kept hs); replace N6 := Lib.hid (N6.out.kept hs); replace G1 := Lib.hid (G1.out.kept hs); replace G2 := Lib.hid (G2.out.kept hs); replace G3 := Lib.hid (G3.out.kept hs); replace G4 := Lib.hid (G4.out.kept hs); replace G5 := Lib.hid (G5.out.kept hs); replace G6 := Lib.hid (G6.out.kept hs); replace G7 := Lib.hid (G7.out.kept hs)
  clear hs
  obtain ⟨wm, rfl⟩ : ∃ wm, wm = wn := ⟨_, rfl⟩
  obtain ⟨k0, k1, k2, k3, k4, k5, k6, k7⟩ := key8 HKB.out
  obtain ⟨x0, x1, x2, x3, x4, x5, x6⟩ := key7 HX.out
  obtain ⟨y0, y1, y2, y3, y4, y5, y6, y7⟩ := key8 HG.out
  go_wp2_with fail
  refine (bIs_any G6.out N5.out (by omega)).mono ?_
  rintro e wn ⟨rfl, hs⟩
  clear k0 k1 k2 k3 k4 k5 k6 k7 x0 x1 x2 x3 x4 x5 x6 y0 y1 y2 y3 y4 y5 y6 y7
  replace HKB := Lib.hid (blk_keeps HKB.out hs (by simp)); replace HX := Lib.hid (blk_keeps HX.out hs (by simp)); replace HG := Lib.hid (blk_keeps HG.out hs (by simp)); replace HK := Lib.hid (HK.out.trans1 hs)
  replace N0 := Lib.hid (N0.out.kept hs); replace N1 := Lib.hid (N1.out.kept hs); replace N2 := Lib.hid (N2.out.kept hs); replace N3 := Lib.hid (N3.out.kept hs); replace N4 := Lib.hid (N4.out.kept hs); replace N5 := Lib.hid (N5.out.kept hs); replace N6 := Lib.hid (N6.out.kept hs); replace G1 := Lib.hid (G1.out.kept hs); replace G2 := Lib.hid (G2.out.kept hs); replace G3 := Lib.hid (G3.out.kept hs); replace G4 := Lib.hid (G4.out.kept hs); replace G5 := Lib.hid (G5.out.kept hs); replace G6 := Lib.hid (G6.out.kept hs); replace G7 := Lib.hid (G7.out.kept hs)
  clear hs
  obtain ⟨wm, rfl⟩ : ∃ wm, wm = wn := ⟨_, rfl⟩
  obtain ⟨k0, k1, k2, k3, k4, k5, k6, k7⟩ := key8 HKB.out
  obtain ⟨x0, x1, x2, x3, x4, x5, x6⟩ := key7 HX.out
  obtain ⟨y0, y1, y2, y3, y4, y5, y6, y7⟩ := key8 HG.out
  go_wp2_with fail
  refine (bIs_any G7.out N6.out (by omega)).mono ?_
  rintro e wn ⟨rfl, hs⟩
  clear k0 k1 k2 k3 k4 k5 k6 k7 x0 x1 x2 x3 x4 x5 x6 y0 y1 y2 y3 y4 y5 y6 y7
  replace HKB := Lib.hid (blk_keeps HKB.out hs (by simp)); replace HX := Lib.hid (blk_keeps HX.out hs (by simp)); replace HG := Lib.hid (blk_keeps HG.out hs (by simp)); replace HK := Lib.hid (HK.out.trans1 hs)
  replace N0 := Lib.hid (N0.out.kept hs); replace N1 := Lib.hid (N1.out.kept hs); replace N2 := Lib.hid (N2.out.kept hs); replace N3 := Lib.hid (N3.out.kept hs); replace N4 := Lib.hid (N4.out.kept hs); replace N5 := Lib.hid (N5.out.kept hs); replace N6 := Lib.hid (N6.out.kept hs); replace G1 := Lib.hid (G1.out.kept hs); replace G2 := Lib.hid (G2.out.kept hs); replace G3 := Lib.hid (G3.out.kept hs); replace G4 := Lib.hid (G4.out.kept hs); replace G5 := Lib.hid (G5.out.kept hs); replace G6 := Lib.hid (G6.out.kept hs); replace G7 := Lib.hid (G7.out.kept hs)
  clear hs
  obtain ⟨wm, rfl⟩ : ∃ wm, wm = wn := ⟨_, rfl⟩
  obtain ⟨k0, k1, k2, k3, k4, k5, k6, k7⟩ := key8 HKB.out
  obtain ⟨x0, x1, x2, x3, x4, x5, x6⟩ := key7 HX.out
  obtain ⟨y0, y1, y2, y3, y4, y5, y6, y7⟩ := key8 HG.out
  go_wp2_with fail
  refine (bAwake_any _).mono ?_
  rintro e wz ⟨rfl, hz⟩
  replace HK := Lib.hid (HK.out.trans1 hz)
  clear hz
  go_wp2
  go_ret
  exact ⟨rfl, HK.out⟩

end Go.Proofs.Ytnfjmngchapdnaa
