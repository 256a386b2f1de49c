import Derived.Test.YtnfjmngchapdnaaMChk
import Derived.Test.YtnfjmngchapdnaaMKeyOf
import Derived.Test.YtnfjmngchapdnaaMBCheck
/- rsa: checkPrivateKey and NewPrivateKeyWithPrecomputation where the public key is none. -/
namespace Go.Proofs.Ytnfjmngchapdnaa
open Go.RowKit

set_option maxRecDepth 1000000 in
set_option maxHeartbeats 4000000 in
theorem checkPriv_nopub (pk : Nat) (N : MA) (E : Int) (f : Bool) (w : World) (d8 : w.cell? ⟨pk, 8, none⟩ = some (.bool f)) (f8 : w.frozen? ⟨pk, 8, none⟩ = false) (hp : PubC (w.setCell ⟨pk, 8, none⟩ (.bool true)) pk N.m E) (hN : N.is (w.setCell ⟨pk, 8, none⟩ (.bool true)))
    (hE : -9223372036854775808 ≤ E ∧ E < 9223372036854775808) (hno : ¬ PubOk N.v E) :
    Calls Try.prog 42 #[.pointer (some ⟨pk, 0, none⟩)] w fun e w' => (∃ t x, e = .returned (.iface t x)) ∧ Keeps [pk] w w' := by
  have hK1 : Keeps [pk] w (w.setCell ⟨pk, 8, none⟩ (.bool true)) := (Keeps.refl _ _).setCell (by simp) _
  obtain ⟨w1, hw1⟩ : ∃ w1, w1 = w.setCell ⟨pk, 8, none⟩ (.bool true) := ⟨_, rfl⟩
  rw [← hw1] at hp hN hK1
  have HP := Lib.hid hp; have HN := Lib.hid hN; have HK := Lib.hid hK1; have HNO := Lib.hid hno
  clear hp hN hK1 hno
  go_enter Try.func42, Try.ntmps42
  go_wp2_with fail
  rw [← hw1]
  clear hw1 d8 f8
  refine (checkPublicKey_c pk N.m N.p N.l N.r N.s N.n N.v E _ HP.out HN.out hE).mono ?_
  rintro e w2 ⟨⟨b, v, rfl, ⟨hok, rfl⟩ | ⟨hno, t, x, rfl⟩⟩, hk2⟩
  · exact absurd hok HNO.out
  · have HK2 := Lib.hid (HK.out.trans hk2 (by simp))
    clear hk2 hno
    go_wp2
    go_ret
    exact ⟨⟨_, _, rfl⟩, HK2.out⟩

set_option maxRecDepth 1000000 in
set_option maxHeartbeats 8000000 in
theorem newPrivAllNil (s1 s2 s3 s4 s6 s7 : Option Addr) (m1 c1 m2 c2 m3 c3 m4 c4 m5 c5 m6 c6 m7 c7 : Nat) (LN LD LP LQ LY LI : List Nat) (E : Int) (w : World)
    (h1 : SlB w s1 m1 c1 LN) (h2 : SlB w s2 m2 c2 LD) (h3 : SlB w s3 m3 c3 LP) (h4 : SlB w s4 m4 c4 LQ) (h6 : SlB w s6 m6 c6 LY) (h7 : SlB w s7 m7 c7 LI)
    (hm1 : m1 ≤ 240) (hm2 : m2 ≤ 240) (hm3 : m3 ≤ 240) (hm4 : m4 ≤ 240) (hm6 : m6 ≤ 240) (hm7 : m7 ≤ 240)
    (hf2 : Fits m2 (bval LD) (bval LN)) (hf7 : Fits m7 (bval LI) (bval LP)) (hE : -9223372036854775808 ≤ E ∧ E < 9223372036854775808) (hnb : ¬ BareOk (bval LN) (bval LD) E) :
    Calls Try.prog 32 #[.slice s1 m1 c1, .int .i64 E, .slice s2 m2 c2, .slice s3 m3 c3, .slice s4 m4 c4, .slice none m5 c5, .slice s6 m6 c6, .slice s7 m7 c7] w fun e w' =>
      (∃ t x, e = .returned (.tuple #[.pointer none, .iface t x])) ∧ Keeps [] w w' := by
  have HF2 := Lib.hid hf2; have HF7 := Lib.hid hf7
  have H1 := Lib.hid h1; have H2 := Lib.hid h2; have H3 := Lib.hid h3; have H4 := Lib.hid h4; have H6 := Lib.hid h6; have H7 := Lib.hid h7
  have HNB := Lib.hid hnb
  clear hf2 hf7 h1 h2 h3 h4 h6 h7 hnb
  go_enter Try.func32, Try.ntmps32
  go_wp2_with fail
  refine (ma_NewMod s1 m1 c1 LN _ H1.out hm1).mono ?_
  rintro e w1 ⟨⟨hgt, a, hav, _, hA, _, rfl⟩ | ⟨hle, t, x, rfl⟩, hk1⟩
  rotate_left
  · go_wp2
    go_ret2
    exact ⟨⟨_, _, rfl⟩, hk1⟩
  have HAV := Lib.hid hav
  have HA := Lib.hid hA
  have HK := Lib.hid hk1
  clear hav hA hgt hk1
  go_wp2_with fail
  refine (ma_NewMod s3 m3 c3 LP _ (H3.out.kept HK.out) hm3).mono ?_
  rintro e w2 ⟨⟨hgt, b, hbv, hb30, hB, _, rfl⟩ | ⟨hle, t, x, rfl⟩, hs⟩
  rotate_left
  · replace HK := Lib.hid (HK.out.trans1 hs)
    clear hs
    go_wp2
    go_ret2
    exact ⟨⟨_, _, rfl⟩, HK.out⟩
  have HBV := Lib.hid hbv
  have HB := Lib.hid hB
  replace HK := Lib.hid (HK.out.trans1 hs); replace HA := Lib.hid (HA.out.kept hs)
  clear hbv hB hgt hs
  go_wp2_with fail
  refine (ma_NewMod s4 m4 c4 LQ _ (H4.out.kept HK.out) hm4).mono ?_
  rintro e w3 ⟨⟨hgt, c, hcv, hc30, hC, _, rfl⟩ | ⟨hle, t, x, rfl⟩, hs⟩
  rotate_left
  · replace HK := Lib.hid (HK.out.trans1 hs)
    clear hs
    go_wp2
    go_ret2
    exact ⟨⟨_, _, rfl⟩, HK.out⟩
  have HCV := Lib.hid hcv
  have HC := Lib.hid hC
  replace HK := Lib.hid (HK.out.trans1 hs); replace HA := Lib.hid (HA.out.kept hs); replace HB := Lib.hid (HB.out.kept hs)
  clear hcv hC hgt hs
  go_wp2_with fail
  refine (newNat_any _).mono ?_
  rintro e w4 ⟨p, l, rfl, hx, hp, hl, hk⟩
  go_wp2_with fail
  refine (ma_SetBytes p l 0 0 a _ _ _ LD _ hx (HA.out.kept hk) ((H2.out.kept HK.out).kept hk) (HA.out.old hl).2.2.1 (by omega)).mono ?_
  rintro e w5 ⟨hR, hk'⟩
  have hs := hk.two hp hl hk'
  replace HK := Lib.hid (HK.out.trans1 hs); replace HA := Lib.hid (HA.out.kept hs); replace HB := Lib.hid (HB.out.kept hs); replace HC := Lib.hid (HC.out.kept hs)
  clear hx hk hp hl hk' hs
  rcases hR with ⟨_, hlt, rfl, hx⟩ | ⟨hno, t, x, rfl⟩
  rotate_left
  · have HNO : Hid (¬ bval LD < bval LN) := Lib.hid fun h => hno ⟨HF2.out a.n (by rw [← HAV.out]; exact HA.out.lt) h, by rw [HAV.out]; exact h⟩
    clear hno
    go_wp2
    go_ret2
    exact ⟨⟨_, _, rfl⟩, HK.out⟩
  have HLT := Lib.hid hlt; have HX := Lib.hid hx
  clear hlt hx
  go_wp2_with fail
  refine (newNat_any _).mono ?_
  rintro e w6 ⟨q, r, rfl, hx, hp, hl, hk⟩
  go_wp2_with fail
  refine (ma_SetBytes q r 0 0 b _ _ _ LI _ hx (HB.out.kept hk) ((H7.out.kept HK.out).kept hk) (HB.out.old hl).2.2.1 (by omega)).mono ?_
  rintro e w7 ⟨hR, hk'⟩
  have hs := hk.two hp hl hk'
  replace HK := Lib.hid (HK.out.trans1 hs); replace HA := Lib.hid (HA.out.kept hs); replace HB := Lib.hid (HB.out.kept hs); replace HC := Lib.hid (HC.out.kept hs); replace HX := Lib.hid (HX.out.kept hs)
  clear hx hk hp hl hk' hs
  rcases hR with ⟨_, hlt, rfl, hx⟩ | ⟨hno, t, x, rfl⟩
  rotate_left
  · have HNO : Hid (¬ bval LI < bval LP) := Lib.hid fun h => hno ⟨HF7.out b.n (by rw [← HBV.out]; exact HB.out.lt) h, by rw [HBV.out]; exact h⟩
    clear hno
    go_wp2
    go_ret2
    exact ⟨⟨_, _, rfl⟩, HK.out⟩
  clear hlt hx
  have HNP : Hid (¬ PubOk a.v E) := Lib.hid fun h => HNB.out ⟨by rw [← HAV.out]; exact HA.out.gt, by rw [← HAV.out]; exact h, by rw [← HAV.out]; exact HLT.out⟩
  go_wp2_with fail
  have hka : Keeps [] w7 (w7.alloc (.cells #[.pointer (some ⟨a.m, 0, none⟩), .int .i64 E, .pointer (some ⟨p, 0, none⟩), .pointer (some ⟨b.m, 0, none⟩), .pointer (some ⟨c.m, 0, none⟩), .slice none m5 c5, .slice s6 m6 c6, .pointer (some ⟨q, 0, none⟩), .bool false] 74)) := (Keeps.refl _ _).alloc _
  have hb := alloc_blk w7 (.cells #[.pointer (some ⟨a.m, 0, none⟩), .int .i64 E, .pointer (some ⟨p, 0, none⟩), .pointer (some ⟨b.m, 0, none⟩), .pointer (some ⟨c.m, 0, none⟩), .slice none m5 c5, .slice s6 m6 c6, .pointer (some ⟨q, 0, none⟩), .bool false] 74)
  obtain ⟨wA, hwA⟩ : ∃ wA, wA = w7.alloc (.cells #[.pointer (some ⟨a.m, 0, none⟩), .int .i64 E, .pointer (some ⟨p, 0, none⟩), .pointer (some ⟨b.m, 0, none⟩), .pointer (some ⟨c.m, 0, none⟩), .slice none m5 c5, .slice s6 m6 c6, .pointer (some ⟨q, 0, none⟩), .bool false] 74) := ⟨_, rfl⟩
  rw [← hwA] at hka hb
  rw [← hwA]
  clear hwA
  have hb1 : (wA.setCell ⟨w7.heap.size, 8, none⟩ (.bool true)).heap[w7.heap.size]? = some (.cells #[.pointer (some ⟨a.m, 0, none⟩), .int .i64 E, .pointer (some ⟨p, 0, none⟩), .pointer (some ⟨b.m, 0, none⟩), .pointer (some ⟨c.m, 0, none⟩), .slice none m5 c5, .slice s6 m6 c6, .pointer (some ⟨q, 0, none⟩), .bool true] 74 (0, 0)) := MHdr.modify hb (by simp)
  have hk1 : Keeps [w7.heap.size] wA (wA.setCell ⟨w7.heap.size, 8, none⟩ (.bool true)) := (Keeps.refl _ _).setCell (by simp) _
  have ho := HA.out.old (Nat.le_refl _)
  have HKA := Lib.hid (HK.out.trans1 hka)
  refine (checkPriv_nopub w7.heap.size a E false _ (by rw [cell_of_row _ _ _ _ _ _ hb]; rfl) (by simp [World.frozen?, hb]) ⟨by rw [cell_of_row _ _ _ _ _ _ hb1]; rfl, by rw [cell_of_row _ _ _ _ _ _ hb1]; rfl⟩ ((HA.out.kept hka).keeps hk1 (by intro x hx; simp at hx ⊢; omega)) hE HNP.out).mono ?_
  rintro e w8 ⟨⟨t, x, rfl⟩, hk4⟩
  have HK4 := Lib.hid (HKA.out.newblk HK.out.size hk4)
  clear hb hb1 hk1 ho hka hk4
  go_wp2
  go_ret2
  exact ⟨⟨_, _, rfl⟩, HK4.out⟩

end Go.Proofs.Ytnfjmngchapdnaa

/- impl.keyOf of all numbers, where one is missing, and the public key is none. -/
namespace Go.Proofs.Ytnfjmngchapdnaa
open Go.RowKit

set_option maxRecDepth 1000000 in
set_option maxHeartbeats 8000000 in
theorem keyOf_all_nil (k : KA) (w : World) (hk : k.is w) (ht : k.tidy) (hnil : k.a5 = none) (hnb : ¬ BareOk (bval k.L1) (bval k.L2) k.E) :
    Calls Try.prog 24 #[.agg #[.slice k.a1 k.m1 k.c1, .int .i64 k.E, .slice k.a2 k.m2 k.c2, .slice k.a3 k.m3 k.c3, .slice k.a4 k.m4 k.c4, .slice k.a5 k.m5 k.c5, .slice k.a6 k.m6 k.c6, .slice k.a7 k.m7 k.c7], .int .i64 1] w fun e w' => e = .returned (.pointer none) ∧ Keeps [] w w' := by
  have hb0 : (w.alloc (.cells #[.slice k.a1 k.m1 k.c1, .int .i64 k.E, .slice k.a2 k.m2 k.c2, .slice k.a3 k.m3 k.c3, .slice k.a4 k.m4 k.c4, .slice k.a5 k.m5 k.c5, .slice k.a6 k.m6 k.c6, .slice k.a7 k.m7 k.c7] 24)).heap[w.heap.size]? = some (.cells #[.slice k.a1 k.m1 k.c1, .int .i64 k.E, .slice k.a2 k.m2 k.c2, .slice k.a3 k.m3 k.c3, .slice k.a4 k.m4 k.c4, .slice k.a5 k.m5 k.c5, .slice k.a6 k.m6 k.c6, .slice k.a7 k.m7 k.c7] 24 (0, 0)) := alloc_blk _ _
  have hk0 : Keeps [] w (w.alloc (.cells #[.slice k.a1 k.m1 k.c1, .int .i64 k.E, .slice k.a2 k.m2 k.c2, .slice k.a3 k.m3 k.c3, .slice k.a4 k.m4 k.c4, .slice k.a5 k.m5 k.c5, .slice k.a6 k.m6 k.c6, .slice k.a7 k.m7 k.c7] 24)) := (Keeps.refl _ _).alloc _
  have HB := Lib.hid hb0
  have HK := Lib.hid hk0
  have HI := Lib.hid (hk.kept hk0)
  have HT := Lib.hid ht
  have S0 := key8 hb0
  have hE := hk.E
  have HNIL := Lib.hid hnil
  clear hnil
  have q1 := hk.s1.1; have r1 := ht.t1.1; have q2 := hk.s2.1; have r2 := ht.t2.1; have q3 := hk.s3.1; have r3 := ht.t3.1; have q4 := hk.s4.1; have r4 := ht.t4.1; have q5 := hk.s5.1; have r5 := ht.t5.1; have q6 := hk.s6.1; have r6 := ht.t6.1; have q7 := hk.s7.1; have r7 := ht.t7.1
  clear hb0 hk0 hk ht
  go_enter Try.func24, Try.ntmps24
  go_wp2_with fail
  refine wp_region_txt [0,0,1,2,0,0,0,0,0,2,0,0,0,2,0,0,0,2,0,0,0,2,0,0,0,2,0,0,0,2,2,0,0,0,0,0] (fun w' => w'.cell? ⟨w.heap.size, 0, none⟩ = some (.slice k.a1 k.m1 k.c1) ∧ w'.cell? ⟨w.heap.size, 1, none⟩ = some (.int .i64 k.E) ∧ w'.cell? ⟨w.heap.size, 2, none⟩ = some (.slice k.a2 k.m2 k.c2) ∧ w'.cell? ⟨w.heap.size, 3, none⟩ = some (.slice k.a3 k.m3 k.c3) ∧ w'.cell? ⟨w.heap.size, 4, none⟩ = some (.slice k.a4 k.m4 k.c4) ∧ w'.cell? ⟨w.heap.size, 5, none⟩ = some (.slice k.a5 k.m5 k.c5) ∧ w'.cell? ⟨w.heap.size, 6, none⟩ = some (.slice k.a6 k.m6 k.c6) ∧ w'.cell? ⟨w.heap.size, 7, none⟩ = some (.slice k.a7 k.m7 k.c7)) (by kernel_rfl) (by kernel_rfl) S0 ?_
  obtain ⟨k0, k1, k2, k3, k4, k5, k6, k7⟩ := S0
  simp only [withMarks]
  repeat (first
    | ((with_reducible refine txt_v (v := ?_) ?_ ?_); (any_goals ((with_reducible refine Yl.mk ?_ ?_); rfl; intro w hSw; (go_simp <;> (try go_bits) <;> (repeat (first | rw [if_pos (by omega)] | rw [if_neg (by omega)])) <;> with_reducible rfl))); try simp only [Act.put, List.setIfInBounds_toArray, List.set_cons_zero, List.set_cons_succ])
    | ((with_reducible refine txt_u ?_ ?_); rfl; try simp only [Act.put, List.setIfInBounds_toArray, List.set_cons_zero, List.set_cons_succ])
    | ((with_reducible refine txt_l (v := ?_) ?_ ?_); (any_goals ((with_reducible refine Reads.mk ?_ ?_); rfl; (go_simp <;> (try go_bits) <;> (repeat (first | rw [if_pos (by omega)] | rw [if_neg (by omega)])) <;> with_reducible rfl))); try simp only [Act.put, List.setIfInBounds_toArray, List.set_cons_zero, List.set_cons_succ])
    | ((with_reducible refine txt_e ?_ ?_); rfl; intro K hK; go_simp; (first | (refine hK _ _ (by first | exact key8 (blk_keeps HB.out (((((((((Keeps.refl [] _).drew.trans1 h1).trans1 h2).trans1 h3).trans1 h4).trans1 h5).trans1 h6).trans1 h7).trans1 h8) (by simp)) | exact key8 (blk_keeps HB.out ((((((((Keeps.refl [] _).drew.trans1 h1).trans1 h2).trans1 h3).trans1 h4).trans1 h5).trans1 h6).trans1 h7) (by simp)) | exact key8 (blk_keeps HB.out (((((((Keeps.refl [] _).drew.trans1 h1).trans1 h2).trans1 h3).trans1 h4).trans1 h5).trans1 h6) (by simp)) | exact key8 (blk_keeps HB.out ((((((Keeps.refl [] _).drew.trans1 h1).trans1 h2).trans1 h3).trans1 h4).trans1 h5) (by simp)) | exact key8 (blk_keeps HB.out (((((Keeps.refl [] _).drew.trans1 h1).trans1 h2).trans1 h3).trans1 h4) (by simp)) | exact key8 (blk_keeps HB.out ((((Keeps.refl [] _).drew.trans1 h1).trans1 h2).trans1 h3) (by simp)) | exact key8 (blk_keeps HB.out (((Keeps.refl [] _).drew.trans1 h1).trans1 h2) (by simp)) | exact key8 (blk_keeps HB.out ((Keeps.refl [] _).drew.trans1 h1) (by simp)) | exact ⟨k0, k1, k2, k3, k4, k5, k6, k7⟩) ?_) | ((first | (go_at_call 32; refine (newPrivAllNil b1 b2 b3 b4 b6 b7 _ _ _ _ _ _ _ _ _ _ _ _ _ _ k.L1 k.L2 k.L3 k.L4 k.L6 k.L7 k.E _ ((((((hO1.kept h2).kept h3).kept h4).kept h5).kept h6).kept h7) (((((hO2.kept h3).kept h4).kept h5).kept h6).kept h7) ((((hO3.kept h4).kept h5).kept h6).kept h7) (((hO4.kept h5).kept h6).kept h7) (hO6.kept h7) hO7 (by omega) (by omega) (by omega) (by omega) (by omega) (by omega) (HT.out.t2.fits q2) (HT.out.t7.fits q7) hE hnb).mono ?_; rintro e8 w8 ⟨⟨t, x, rfl⟩, h8⟩) | (go_at_call 27; (with_reducible refine Calls.mono (clone2 k.a7 k.m7 k.c7 k.L7 _ (HI.out.s7.kept (((((((Keeps.refl [] _).drew.trans1 h1).trans1 h2).trans1 h3).trans1 h4).trans1 h5).trans1 h6)) (by omega)) ?_); rintro e7 w7 ⟨⟨b7, g7, rfl, hO7, hn7⟩, h7⟩) | (go_at_call 27; (with_reducible refine Calls.mono (clone2 k.a6 k.m6 k.c6 k.L6 _ (HI.out.s6.kept ((((((Keeps.refl [] _).drew.trans1 h1).trans1 h2).trans1 h3).trans1 h4).trans1 h5)) (by omega)) ?_); rintro e6 w6 ⟨⟨b6, g6, rfl, hO6, hn6⟩, h6⟩) | (go_at_call 27; (with_reducible refine Calls.mono (clone2 k.a5 k.m5 k.c5 k.L5 _ (HI.out.s5.kept (((((Keeps.refl [] _).drew.trans1 h1).trans1 h2).trans1 h3).trans1 h4)) (by omega)) ?_); rintro e5 w5 ⟨⟨b5, g5, rfl, hO5, hn5⟩, h5⟩; obtain rfl : b5 = none := hn5.2 HNIL.out) | (go_at_call 27; (with_reducible refine Calls.mono (clone2 k.a4 k.m4 k.c4 k.L4 _ (HI.out.s4.kept ((((Keeps.refl [] _).drew.trans1 h1).trans1 h2).trans1 h3)) (by omega)) ?_); rintro e4 w4 ⟨⟨b4, g4, rfl, hO4, hn4⟩, h4⟩) | (go_at_call 27; (with_reducible refine Calls.mono (clone2 k.a3 k.m3 k.c3 k.L3 _ (HI.out.s3.kept (((Keeps.refl [] _).drew.trans1 h1).trans1 h2)) (by omega)) ?_); rintro e3 w3 ⟨⟨b3, g3, rfl, hO3, hn3⟩, h3⟩) | (go_at_call 27; (with_reducible refine Calls.mono (clone2 k.a2 k.m2 k.c2 k.L2 _ (HI.out.s2.kept ((Keeps.refl [] _).drew.trans1 h1)) (by omega)) ?_); rintro e2 w2 ⟨⟨b2, g2, rfl, hO2, hn2⟩, h2⟩) | (go_at_call 27; (with_reducible refine Calls.mono (clone2 k.a1 k.m1 k.c1 k.L1 _ (HI.out.s1.kept (Keeps.refl [] _).drew) (by omega)) ?_); rintro e1 w1 ⟨⟨b1, g1, rfl, hO1, hn1⟩, h1⟩)); dsimp only; refine hK _ _ (by first | exact key8 (blk_keeps HB.out (((((((((Keeps.refl [] _).drew.trans1 h1).trans1 h2).trans1 h3).trans1 h4).trans1 h5).trans1 h6).trans1 h7).trans1 h8) (by simp)) | exact key8 (blk_keeps HB.out ((((((((Keeps.refl [] _).drew.trans1 h1).trans1 h2).trans1 h3).trans1 h4).trans1 h5).trans1 h6).trans1 h7) (by simp)) | exact key8 (blk_keeps HB.out (((((((Keeps.refl [] _).drew.trans1 h1).trans1 h2).trans1 h3).trans1 h4).trans1 h5).trans1 h6) (by simp)) | exact key8 (blk_keeps HB.out ((((((Keeps.refl [] _).drew.trans1 h1).trans1 h2).trans1 h3).trans1 h4).trans1 h5) (by simp)) | exact key8 (blk_keeps HB.out (((((Keeps.refl [] _).drew.trans1 h1).trans1 h2).trans1 h3).trans1 h4) (by simp)) | exact key8 (blk_keeps HB.out ((((Keeps.refl [] _).drew.trans1 h1).trans1 h2).trans1 h3) (by simp)) | exact key8 (blk_keeps HB.out (((Keeps.refl [] _).drew.trans1 h1).trans1 h2) (by simp)) | exact key8 (blk_keeps HB.out ((Keeps.refl [] _).drew.trans1 h1) (by simp)) | exact ⟨k0, k1, k2, k3, k4, k5, k6, k7⟩) ?_)); clear hK K; try simp only [Act.put, List.setIfInBounds_toArray, List.set_cons_zero, List.set_cons_succ]))
  refine txt_nil ?_
  have hs := HK.out.trans1 (((((((((Keeps.refl [] _).drew.trans1 h1).trans1 h2).trans1 h3).trans1 h4).trans1 h5).trans1 h6).trans1 h7).trans1 h8)
  have HS := Lib.hid hs
  clear k0 k1 k2 k3 k4 k5 k6 k7 h1 h2 h3 h4 h5 h6 h7 h8 hs hO1 hn1 hO2 hn2 hO3 hn3 hO4 hn4 hO5 hn5 hO6 hn6 hO7 hn7
  go_wp2
  go_ret
  exact ⟨rfl, HS.out⟩

end Go.Proofs.Ytnfjmngchapdnaa

/- impl.BCheck of all numbers, where one is missing, and the public key is none. -/
namespace Go.Proofs.Ytnfjmngchapdnaa
open Go.RowKit

set_option maxRecDepth 1000000 in
set_option maxHeartbeats 8000000 in
theorem bCheck_all_nil (k : KA) (w : World) (hk : k.is w) (ht : k.tidy) (hnil : k.a5 = none) (hnb : ¬ BareOk (bval k.L1) (bval k.L2) k.E) :
    Calls Try.prog 11 #[.agg #[.slice k.a1 k.m1 k.c1, .int .i64 k.E, .slice k.a2 k.m2 k.c2, .slice k.a3 k.m3 k.c3, .slice k.a4 k.m4 k.c4, .slice k.a5 k.m5 k.c5, .slice k.a6 k.m6 k.c6, .slice k.a7 k.m7 k.c7], .int .i64 1] w fun e w' =>
      e = .returned (.tuple #[.agg #[.slice none 0 0, .int .i64 0, .slice none 0 0, .slice none 0 0, .slice none 0 0, .slice none 0 0, .slice none 0 0, .slice none 0 0], .bool false]) ∧ Keeps [] w w' := by
  have hk0 : Keeps [] w (((w.alloc (.cells #[.slice k.a1 k.m1 k.c1, .int .i64 k.E, .slice k.a2 k.m2 k.c2, .slice k.a3 k.m3 k.c3, .slice k.a4 k.m4 k.c4, .slice k.a5 k.m5 k.c5, .slice k.a6 k.m6 k.c6, .slice k.a7 k.m7 k.c7] 24)).alloc (.cells #[.slice none 0 0, .int .i64 0, .slice none 0 0, .slice none 0 0, .slice none 0 0, .slice none 0 0, .slice none 0 0, .slice none 0 0] 24)).alloc (.cells #[.bool false] 4)) := (((Keeps.refl _ _).alloc _).alloc _).alloc _
  have hb0 : (((w.alloc (.cells #[.slice k.a1 k.m1 k.c1, .int .i64 k.E, .slice k.a2 k.m2 k.c2, .slice k.a3 k.m3 k.c3, .slice k.a4 k.m4 k.c4, .slice k.a5 k.m5 k.c5, .slice k.a6 k.m6 k.c6, .slice k.a7 k.m7 k.c7] 24)).alloc (.cells #[.slice none 0 0, .int .i64 0, .slice none 0 0, .slice none 0 0, .slice none 0 0, .slice none 0 0, .slice none 0 0, .slice none 0 0] 24)).alloc (.cells #[.bool false] 4)).heap[w.heap.size + 1]? = some (.cells #[.slice none 0 0, .int .i64 0, .slice none 0 0, .slice none 0 0, .slice none 0 0, .slice none 0 0, .slice none 0 0, .slice none 0 0] 24 (0, 0)) := by
    show (((w.heap.push _).push _).push _)[w.heap.size + 1]? = _
    rw [Array.getElem?_push, if_neg (by simp), Array.getElem?_push, if_pos (by simp)]
  have hd0 : (((w.alloc (.cells #[.slice k.a1 k.m1 k.c1, .int .i64 k.E, .slice k.a2 k.m2 k.c2, .slice k.a3 k.m3 k.c3, .slice k.a4 k.m4 k.c4, .slice k.a5 k.m5 k.c5, .slice k.a6 k.m6 k.c6, .slice k.a7 k.m7 k.c7] 24)).alloc (.cells #[.slice none 0 0, .int .i64 0, .slice none 0 0, .slice none 0 0, .slice none 0 0, .slice none 0 0, .slice none 0 0, .slice none 0 0] 24)).alloc (.cells #[.bool false] 4)).heap[w.heap.size + 1 + 1]? = some (.cells #[.bool false] 4 (0, 0)) := by
    show (((w.heap.push _).push _).push _)[w.heap.size + 1 + 1]? = _
    rw [Array.getElem?_push, if_pos (by simp)]
  have KO := (fun (v : World) (hv : k.is v) => keyOf_all_nil k v hv ht hnil hnb)
  have HKO := Lib.hid KO
  clear KO hnil hnb
  have HK := Lib.hid hk0; have HB := Lib.hid hb0; have HD := Lib.hid hd0
  clear hk0 hb0 hd0
  go_enter_defers Try.func11, Try.ntmps11
  go_wp2_with fail
  refine (HKO.out _ (hk.kept HK.out)).mono ?_
  rintro e w1 ⟨rfl, h1⟩
  have hb2 := blk_keeps HB.out h1 (by simp)
  have hd2 := blk_keeps HD.out h1 (by simp)
  have HKK := Lib.hid (HK.out.trans1 h1)
  have dd := cell_of_one hd2
  have df := free_of_one hd2
  obtain ⟨k0, k1, k2, k3, k4, k5, k6, k7⟩ := key8 hb2
  have ff : ∀ j, w1.frozen? ⟨w.heap.size + 1, j, none⟩ = false := fun j => by simp [World.frozen?, hb2]
  have e0 := ff 0; have e1 := ff 1; have e2 := ff 2; have e3 := ff 3; have e4 := ff 4; have e5 := ff 5; have e6 := ff 6; have e7 := ff 7
  have hbS : ((((((((w1.setCell ⟨w.heap.size + 1, 0, none⟩ (.slice none 0 0)).setCell ⟨w.heap.size + 1, 1, none⟩ (.int .i64 0)).setCell ⟨w.heap.size + 1, 2, none⟩ (.slice none 0 0)).setCell ⟨w.heap.size + 1, 3, none⟩ (.slice none 0 0)).setCell ⟨w.heap.size + 1, 4, none⟩ (.slice none 0 0)).setCell ⟨w.heap.size + 1, 5, none⟩ (.slice none 0 0)).setCell ⟨w.heap.size + 1, 6, none⟩ (.slice none 0 0)).setCell ⟨w.heap.size + 1, 7, none⟩ (.slice none 0 0)).heap[w.heap.size + 1]? = some (.cells #[.slice none 0 0, .int .i64 0, .slice none 0 0, .slice none 0 0, .slice none 0 0, .slice none 0 0, .slice none 0 0, .slice none 0 0] 24 (0, 0)) := set8 hb2
  have hdS : ((((((((w1.setCell ⟨w.heap.size + 1, 0, none⟩ (.slice none 0 0)).setCell ⟨w.heap.size + 1, 1, none⟩ (.int .i64 0)).setCell ⟨w.heap.size + 1, 2, none⟩ (.slice none 0 0)).setCell ⟨w.heap.size + 1, 3, none⟩ (.slice none 0 0)).setCell ⟨w.heap.size + 1, 4, none⟩ (.slice none 0 0)).setCell ⟨w.heap.size + 1, 5, none⟩ (.slice none 0 0)).setCell ⟨w.heap.size + 1, 6, none⟩ (.slice none 0 0)).setCell ⟨w.heap.size + 1, 7, none⟩ (.slice none 0 0)).heap[w.heap.size + 1 + 1]? = some (.cells #[.bool false] 4 (0, 0)) := set8_other hd2 (by omega)
  have hkT : Keeps [] w ((((((((w1.setCell ⟨w.heap.size + 1, 0, none⟩ (.slice none 0 0)).setCell ⟨w.heap.size + 1, 1, none⟩ (.int .i64 0)).setCell ⟨w.heap.size + 1, 2, none⟩ (.slice none 0 0)).setCell ⟨w.heap.size + 1, 3, none⟩ (.slice none 0 0)).setCell ⟨w.heap.size + 1, 4, none⟩ (.slice none 0 0)).setCell ⟨w.heap.size + 1, 5, none⟩ (.slice none 0 0)).setCell ⟨w.heap.size + 1, 6, none⟩ (.slice none 0 0)).setCell ⟨w.heap.size + 1, 7, none⟩ (.slice none 0 0)) := set8_keeps HKK.out (by omega)
  have hbF : (((((((((w1.setCell ⟨w.heap.size + 1, 0, none⟩ (.slice none 0 0)).setCell ⟨w.heap.size + 1, 1, none⟩ (.int .i64 0)).setCell ⟨w.heap.size + 1, 2, none⟩ (.slice none 0 0)).setCell ⟨w.heap.size + 1, 3, none⟩ (.slice none 0 0)).setCell ⟨w.heap.size + 1, 4, none⟩ (.slice none 0 0)).setCell ⟨w.heap.size + 1, 5, none⟩ (.slice none 0 0)).setCell ⟨w.heap.size + 1, 6, none⟩ (.slice none 0 0)).setCell ⟨w.heap.size + 1, 7, none⟩ (.slice none 0 0)).setCell ⟨w.heap.size + 1 + 1, 0, none⟩ (.bool false)).heap[w.heap.size + 1]? = some (.cells #[.slice none 0 0, .int .i64 0, .slice none 0 0, .slice none 0 0, .slice none 0 0, .slice none 0 0, .slice none 0 0, .slice none 0 0] 24 (0, 0)) := (Below.heap_setCell _ _ _ _ (by simp)).trans hbS
  have hdF : (((((((((w1.setCell ⟨w.heap.size + 1, 0, none⟩ (.slice none 0 0)).setCell ⟨w.heap.size + 1, 1, none⟩ (.int .i64 0)).setCell ⟨w.heap.size + 1, 2, none⟩ (.slice none 0 0)).setCell ⟨w.heap.size + 1, 3, none⟩ (.slice none 0 0)).setCell ⟨w.heap.size + 1, 4, none⟩ (.slice none 0 0)).setCell ⟨w.heap.size + 1, 5, none⟩ (.slice none 0 0)).setCell ⟨w.heap.size + 1, 6, none⟩ (.slice none 0 0)).setCell ⟨w.heap.size + 1, 7, none⟩ (.slice none 0 0)).setCell ⟨w.heap.size + 1 + 1, 0, none⟩ (.bool false)).heap[w.heap.size + 1 + 1]? = some (.cells #[.bool false] 4 (0, 0)) := one_setCell hdS
  have hkU : Keeps [] w (((((((((w1.setCell ⟨w.heap.size + 1, 0, none⟩ (.slice none 0 0)).setCell ⟨w.heap.size + 1, 1, none⟩ (.int .i64 0)).setCell ⟨w.heap.size + 1, 2, none⟩ (.slice none 0 0)).setCell ⟨w.heap.size + 1, 3, none⟩ (.slice none 0 0)).setCell ⟨w.heap.size + 1, 4, none⟩ (.slice none 0 0)).setCell ⟨w.heap.size + 1, 5, none⟩ (.slice none 0 0)).setCell ⟨w.heap.size + 1, 6, none⟩ (.slice none 0 0)).setCell ⟨w.heap.size + 1, 7, none⟩ (.slice none 0 0)).setCell ⟨w.heap.size + 1 + 1, 0, none⟩ (.bool false)) := hkT.setCell (by simp; omega) _
  have HBF := Lib.hid hbF; have HDF := Lib.hid hdF; have HKU := Lib.hid hkU
  clear hbS hdS hkT hbF hdF hkU hb2 hd2 h1 ff
  go_wp2
  refine leaves_cons (f := 13) (args := #[.pointer (some ⟨w.heap.size + 1 + 1, 0, none⟩)]) (by simp) (by simp [go_sem]) ?_
  refine (kept_idle ⟨w.heap.size + 1 + 1, 0, none⟩ _).mono ?_
  rintro e u' w'' ⟨rfl, rfl, rfl⟩
  clear dd df k0 k1 k2 k3 k4 k5 k6 k7 e0 e1 e2 e3 e4 e5 e6 e7
  obtain ⟨wF, hwF⟩ : ∃ wF, wF = (((((((((w1.setCell ⟨w.heap.size + 1, 0, none⟩ (.slice none 0 0)).setCell ⟨w.heap.size + 1, 1, none⟩ (.int .i64 0)).setCell ⟨w.heap.size + 1, 2, none⟩ (.slice none 0 0)).setCell ⟨w.heap.size + 1, 3, none⟩ (.slice none 0 0)).setCell ⟨w.heap.size + 1, 4, none⟩ (.slice none 0 0)).setCell ⟨w.heap.size + 1, 5, none⟩ (.slice none 0 0)).setCell ⟨w.heap.size + 1, 6, none⟩ (.slice none 0 0)).setCell ⟨w.heap.size + 1, 7, none⟩ (.slice none 0 0)).setCell ⟨w.heap.size + 1 + 1, 0, none⟩ (.bool false)) := ⟨_, rfl⟩
  rw [← hwF] at HBF HDF HKU
  rw [← hwF]
  clear hwF
  obtain ⟨k0, k1, k2, k3, k4, k5, k6, k7⟩ := key8 HBF.out
  have dd := cell_of_one HDF.out
  simp [Leaves, settle, results, Try.results11, go_sem, dd, k0, k1, k2, k3, k4, k5, k6, k7]
  exact HKU.out

end Go.Proofs.Ytnfjmngchapdnaa
