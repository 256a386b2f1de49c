import Derived.Test.YtnfjmngchapdnaaGreatDoorMRowB
import Derived.Test.YtnfjmngchapdnaaGreatDoorMKeyOf
import Derived.Test.YtnfjmngchapdnaaGreatDoorMChkB
import Derived.Test.YtnfjmngchapdnaaGreatDoorMNum
/- impl.BDecrypt, impl.BSession: by any way that makes the key. -/
namespace Go.Proofs.YtnfjmngchapdnaaGreatDoor
open Go.RowKit

/-- What keyOf leaves of a key in a way: a key that decrypts by D modulo N, just if ok. -/
def KeyGot (e : Ending) (w' : World) (ok : Prop) (N D : Nat) (a0 : Addr) : Prop :=
  (ok ∧ ∃ K : KD, e = .returned (.pointer (some ⟨K.pk, 0, none⟩)) ∧ K.is w' ∧ K.N.v = N ∧ K.D = D ∧ K.a0 = a0) ∨ (¬ ok ∧ e = .returned (.pointer none))
def KA.val (k : KA) : Value := .agg #[.slice k.a1 k.m1 k.c1, .int .i64 k.E, .slice k.a2 k.m2 k.c2, .slice k.a3 k.m3 k.c3, .slice k.a4 k.m4 k.c4, .slice k.a5 k.m5 k.c5, .slice k.a6 k.m6 k.c6, .slice k.a7 k.m7 k.c7]
def Keyed (v : Value) (way : Int) (w : World) (ok : Prop) (N D : Nat) (a0 : Addr) : Prop :=
  ∀ w', Keeps [] w w' → Calls Tryz.prog 23 #[v, .int .i64 way] w' fun e w'' => KeyGot e w'' ok N D a0 ∧ Keeps [] w' w''

theorem SlB.beside2 {w : World} {a : Option Addr} {n c g : Nat} {L : List Nat} {b : Bool} (h : SlB w a n c L) (hg : w.heap[g]? = some (.cells #[.bool b] 4 (0, 0))) (v : Value) : SlB (w.setCell ⟨g, 0, none⟩ v) a n c L :=
  h.keeps' ((Keeps.refl [g] w).setCell (p := ⟨g, 0, none⟩) (by simp) v) (fun b' o hL hB => by
    simp only [List.mem_singleton]
    rintro rfl
    have h0 := hB 0 (List.length_pos_iff.2 hL)
    rw [cell_of_row w b' _ _ _ _ hg] at h0
    rcases Nat.eq_zero_or_pos (o + 0) with h5 | h5
    · rw [h5] at h0; simp at h0
    · rw [Array.getElem?_eq_none (by simp; omega)] at h0
      simp at h0)
/-- What BDecrypt leaves. -/
def BDecR (e : Ending) (w' : World) (ok : Prop) (N S v r : Nat) : Prop :=
  (ok ∧ 1024 ≤ blen N ∧ v < N ∧ ∃ (O T : List Nat) (a : Option Addr) (n c : Nat), Blk S r O ∧ OpensTo O T ∧ SlB w' a n c T ∧ e = .returned (.tuple #[.slice a n c, .bool true])) ∨
  ((¬ ok ∨ blen N < 1024 ∨ ¬ v < N ∨ ∃ O, Blk S r O ∧ Shut O) ∧ ∃ x, e = .returned (.tuple #[x, .bool false]))

set_option maxRecDepth 1000000 in
set_option maxHeartbeats 8000000 in
theorem bDecrypt_any (k : KA) (way : Int) (s : Option Addr) (mb cb : Nat) (L : List Nat) (w : World) (ok : Prop) (N D : Nat) (a0 : Addr)
    (hko : Keyed (.agg #[.slice k.a1 k.m1 k.c1, .int .i64 k.E, .slice k.a2 k.m2 k.c2, .slice k.a3 k.m3 k.c3, .slice k.a4 k.m4 k.c4, .slice k.a5 k.m5 k.c5, .slice k.a6 k.m6 k.c6, .slice k.a7 k.m7 k.c7]) way w ok N D a0)
    (hs : SlB w s mb cb L) (hmb : mb = (blen N + 7) / 8) (hmb2 : mb ≤ 1000) :
    Calls Tryz.prog 9 #[.agg #[.slice k.a1 k.m1 k.c1, .int .i64 k.E, .slice k.a2 k.m2 k.c2, .slice k.a3 k.m3 k.c3, .slice k.a4 k.m4 k.c4, .slice k.a5 k.m5 k.c5, .slice k.a6 k.m6 k.c6, .slice k.a7 k.m7 k.c7], .int .i64 way, .slice s mb cb] w fun e w' =>
      BDecR e w' ok N mb (bval L) (bval L ^ D % N) ∧ Keeps [] w w' := by
  have hk0 : Keeps [] w ((w.alloc (.cells #[.slice k.a1 k.m1 k.c1, .int .i64 k.E, .slice k.a2 k.m2 k.c2, .slice k.a3 k.m3 k.c3, .slice k.a4 k.m4 k.c4, .slice k.a5 k.m5 k.c5, .slice k.a6 k.m6 k.c6, .slice k.a7 k.m7 k.c7] 24)).alloc (.cells #[.bool false] 4)) := ((Keeps.refl _ _).alloc _).alloc _
  have hb0 : ((w.alloc (.cells #[.slice k.a1 k.m1 k.c1, .int .i64 k.E, .slice k.a2 k.m2 k.c2, .slice k.a3 k.m3 k.c3, .slice k.a4 k.m4 k.c4, .slice k.a5 k.m5 k.c5, .slice k.a6 k.m6 k.c6, .slice k.a7 k.m7 k.c7] 24)).alloc (.cells #[.bool false] 4)).heap[w.heap.size + 1]? = some (.cells #[.bool false] 4 (0, 0)) := by
    show ((w.heap.push _).push _)[w.heap.size + 1]? = _
    rw [Array.getElem?_push, if_pos (by simp)]
  have HKO := Lib.hid (hko _ hk0)
  have HK0 := Lib.hid hk0; have HB0 := Lib.hid hb0; have HS := Lib.hid hs; have HMB := Lib.hid hmb
  obtain ⟨r, hr⟩ : ∃ r, r = bval L ^ D % N := ⟨_, rfl⟩
  rw [← hr]
  have HR := Lib.hid hr
  clear hk0 hb0 hko hs hr hmb
  go_enter_defers Tryz.func9, Tryz.ntmps9
  go_wp2_with fail
  refine HKO.out.mono ?_
  rintro e w1 ⟨⟨hok, K, rfl, hI, hN, hD, ha⟩ | ⟨hno, rfl⟩, hk1⟩
  · have hb2 := blk_keeps HB0.out hk1 (by simp)
    have hkk := HK0.out.trans1 hk1
    have HB2 := Lib.hid hb2; have HK1 := Lib.hid hkk; have HI := Lib.hid hI
    subst hN hD ha
    clear hb2 hkk hk1 hI HKO
    go_wp2_with fail
    refine (clone2 s mb cb L _ (HS.out.kept HK1.out) (by omega)).mono ?_
    rintro e w2 ⟨⟨b1, g1, rfl, hO1, _⟩, hk2⟩
    have hde := decryptPk_any K b1 mb g1 L .nilIface w2 (HI.out.kept hk2) hO1 HMB.out hmb2
    rw [← HR.out] at hde
    have HDE := Lib.hid hde
    have HB3 := Lib.hid (blk_keeps HB2.out hk2 (by simp)); have HK2 := Lib.hid (HK1.out.trans1 hk2)
    clear hde hO1 hk2
    go_wp2_with fail
    refine HDE.out.mono ?_
    rintro e w3 ⟨⟨q1, q2, O, T, a, n, c, q3, q4, q5, rfl⟩ | ⟨hno, t, x, rfl⟩, hk3⟩
    · have hb4 := blk_keeps HB3.out hk3 (by simp)
      have cc := cell_of_one hb4
      have ff := free_of_one hb4
      have HQ := Lib.hid q5; have HK4 := Lib.hid (HK2.out.trans1 hk3); have HQ3 := Lib.hid q3; have HQ4 := Lib.hid q4
      clear q5 hk3 q3 q4
      go_wp2_with fail
      refine wp_region_txt [0,0,0,0,2] (fun _ => True) (by kernel_rfl) (by kernel_rfl) trivial ?_
      simp only [withMarks]
      repeat (first
        | ((with_reducible refine txt_v (v := ?_) ?_ ?_); (any_goals ((with_reducible refine Yl.mk ?_ ?_); rfl; intro w hSw; (go_simp <;> (try go_bits) <;> (repeat (first | rw [if_pos (by omega)] | rw [if_neg (by omega)])) <;> with_reducible rfl))); try simp only [Act.put, List.setIfInBounds_toArray, List.set_cons_zero, List.set_cons_succ])
        | ((with_reducible refine txt_u ?_ ?_); rfl; try simp only [Act.put, List.setIfInBounds_toArray, List.set_cons_zero, List.set_cons_succ])
        | ((with_reducible refine txt_l (v := ?_) ?_ ?_); (any_goals ((with_reducible refine Reads.mk ?_ ?_); rfl; (go_simp <;> (try go_bits) <;> (repeat (first | rw [if_pos (by omega)] | rw [if_neg (by omega)])) <;> with_reducible rfl))); try simp only [Act.put, List.setIfInBounds_toArray, List.set_cons_zero, List.set_cons_succ])
        | ((with_reducible refine txt_e ?_ ?_); rfl; intro K hK; go_simp; (first | (refine hK _ _ trivial ?_) | ((first | fail); dsimp only; refine hK _ _ trivial ?_)); clear hK K; try simp only [Act.put, List.setIfInBounds_toArray, List.set_cons_zero, List.set_cons_succ]))
      refine txt_nil ?_
      go_wp2
      refine leaves_cons (f := 22) (args := #[.pointer (some ⟨w.heap.size + 1, 0, none⟩)]) (by simp) (by simp [go_sem]) ?_
      refine (kept_idle ⟨w.heap.size + 1, 0, none⟩ _).mono ?_
      rintro e u' w'' ⟨rfl, rfl, rfl⟩
      have hb5 := one_setCell (u := .bool true) hb4
      have d3 := cell_of_one hb5
      have hk5 := HK4.out.setCell (p := ⟨w.heap.size + 1, 0, none⟩) (fun h => absurd h (by simp)) (.bool true)
      have hs5 := SlB.beside2 HQ.out hb4 (.bool true)
      simp [Leaves, settle, results, Tryz.results9, go_sem, d3]
      exact ⟨.inl ⟨hok, q1, q2, O, T, a, n, c, HQ3.out, HQ4.out, hs5, rfl⟩, hk5.drew⟩
    · have hb4 := blk_keeps HB3.out hk3 (by simp)
      have cc := cell_of_one hb4
      have ff := free_of_one hb4
      have HK4 := Lib.hid (HK2.out.trans1 hk3); have HNO := Lib.hid hno
      clear hk3 hno
      go_wp2_with fail
      refine wp_region_txt [0,0,0,0,2] (fun _ => True) (by kernel_rfl) (by kernel_rfl) trivial ?_
      simp only [withMarks]
      repeat (first
        | ((with_reducible refine txt_v (v := ?_) ?_ ?_); (any_goals ((with_reducible refine Yl.mk ?_ ?_); rfl; intro w hSw; (go_simp <;> (try go_bits) <;> (repeat (first | rw [if_pos (by omega)] | rw [if_neg (by omega)])) <;> with_reducible rfl))); try simp only [Act.put, List.setIfInBounds_toArray, List.set_cons_zero, List.set_cons_succ])
        | ((with_reducible refine txt_u ?_ ?_); rfl; try simp only [Act.put, List.setIfInBounds_toArray, List.set_cons_zero, List.set_cons_succ])
        | ((with_reducible refine txt_l (v := ?_) ?_ ?_); (any_goals ((with_reducible refine Reads.mk ?_ ?_); rfl; (go_simp <;> (try go_bits) <;> (repeat (first | rw [if_pos (by omega)] | rw [if_neg (by omega)])) <;> with_reducible rfl))); try simp only [Act.put, List.setIfInBounds_toArray, List.set_cons_zero, List.set_cons_succ])
        | ((with_reducible refine txt_e ?_ ?_); rfl; intro K hK; go_simp; (first | (refine hK _ _ trivial ?_) | ((first | fail); dsimp only; refine hK _ _ trivial ?_)); clear hK K; try simp only [Act.put, List.setIfInBounds_toArray, List.set_cons_zero, List.set_cons_succ]))
      refine txt_nil ?_
      go_wp2
      refine leaves_cons (f := 22) (args := #[.pointer (some ⟨w.heap.size + 1, 0, none⟩)]) (by simp) (by simp [go_sem]) ?_
      refine (kept_idle ⟨w.heap.size + 1, 0, none⟩ _).mono ?_
      rintro e u' w'' ⟨rfl, rfl, rfl⟩
      have hb5 := one_setCell (u := .bool false) hb4
      have d3 := cell_of_one hb5
      have hk5 := HK4.out.setCell (p := ⟨w.heap.size + 1, 0, none⟩) (fun h => absurd h (by simp)) (.bool false)
      simp [Leaves, settle, results, Tryz.results9, go_sem, d3]
      exact ⟨.inr ⟨.inr HNO.out, _, rfl⟩, hk5.drew⟩
  · have hb2 := blk_keeps HB0.out hk1 (by simp)
    have cc := cell_of_one hb2
    have ff := free_of_one hb2
    have HK1 := Lib.hid (HK0.out.trans1 hk1)
    clear hk1
    go_wp2
    refine leaves_cons (f := 22) (args := #[.pointer (some ⟨w.heap.size + 1, 0, none⟩)]) (by simp) (by simp [go_sem]) ?_
    refine (kept_idle ⟨w.heap.size + 1, 0, none⟩ _).mono ?_
    rintro e u' w'' ⟨rfl, rfl, rfl⟩
    have hb3 := one_setCell (u := .bool false) hb2
    have d3 := cell_of_one hb3
    have hk3 := HK1.out.setCell (p := ⟨w.heap.size + 1, 0, none⟩) (fun h => absurd h (by simp)) (.bool false)
    simp [Leaves, settle, results, Tryz.results9, go_sem, d3]
    exact ⟨.inr ⟨.inl hno, _, rfl⟩, hk3⟩

end Go.Proofs.YtnfjmngchapdnaaGreatDoor

/- rsa: checkPrivateKey and NewPrivateKeyWithPrecomputation where the public key is none. -/
namespace Go.Proofs.YtnfjmngchapdnaaGreatDoor
open Go.RowKit

set_option maxRecDepth 1000000 in
set_option maxHeartbeats 4000000 in
theorem checkPriv_nopub (pk : Nat) (N : MA) (E : Int) (f : Bool) (w : World) (d8 : w.cell? ⟨pk, 8, none⟩ = some (.bool f)) (f8 : w.frozen? ⟨pk, 8, none⟩ = false) (hp : PubC (w.setCell ⟨pk, 8, none⟩ (.bool true)) pk N.m E) (hN : N.is (w.setCell ⟨pk, 8, none⟩ (.bool true)))
    (hE : -9223372036854775808 ≤ E ∧ E < 9223372036854775808) (hno : ¬ PubOk N.v E) :
    Calls Tryz.prog 54 #[.pointer (some ⟨pk, 0, none⟩)] w fun e w' => (∃ t x, e = .returned (.iface t x)) ∧ Keeps [pk] w w' := by
  have hK1 : Keeps [pk] w (w.setCell ⟨pk, 8, none⟩ (.bool true)) := (Keeps.refl _ _).setCell (by simp) _
  obtain ⟨w1, hw1⟩ : ∃ w1, w1 = w.setCell ⟨pk, 8, none⟩ (.bool true) := ⟨_, rfl⟩
  rw [← hw1] at hp hN hK1
  have HP := Lib.hid hp; have HN := Lib.hid hN; have HK := Lib.hid hK1; have HNO := Lib.hid hno
  clear hp hN hK1 hno
  go_enter Tryz.func54, Tryz.ntmps54
  go_wp2_with fail
  rw [← hw1]
  clear hw1 d8 f8
  refine (checkPublicKey_c pk N.m N.p N.l N.r N.s N.n N.v E _ HP.out HN.out hE).mono ?_
  rintro e w2 ⟨⟨b, v, rfl, ⟨hok, rfl⟩ | ⟨hno, t, x, rfl⟩⟩, hk2⟩
  · exact absurd hok HNO.out
  · have HK2 := Lib.hid (HK.out.trans hk2 (by simp))
    clear hk2 hno
    go_wp2
    go_ret
    exact ⟨⟨_, _, rfl⟩, HK2.out⟩

set_option maxRecDepth 1000000 in
set_option maxHeartbeats 8000000 in
theorem newPrivAllNil (s1 s2 s3 s4 s6 s7 : Option Addr) (m1 c1 m2 c2 m3 c3 m4 c4 m5 c5 m6 c6 m7 c7 : Nat) (LN LD LP LQ LY LI : List Nat) (E : Int) (w : World)
    (h1 : SlB w s1 m1 c1 LN) (h2 : SlB w s2 m2 c2 LD) (h3 : SlB w s3 m3 c3 LP) (h4 : SlB w s4 m4 c4 LQ) (h6 : SlB w s6 m6 c6 LY) (h7 : SlB w s7 m7 c7 LI)
    (hm1 : m1 ≤ 240) (hm2 : m2 ≤ 240) (hm3 : m3 ≤ 240) (hm4 : m4 ≤ 240) (hm6 : m6 ≤ 240) (hm7 : m7 ≤ 240)
    (hf2 : Fits m2 (bval LD) (bval LN)) (hf7 : Fits m7 (bval LI) (bval LP)) (hE : -9223372036854775808 ≤ E ∧ E < 9223372036854775808) (hnb : ¬ BareOk (bval LN) (bval LD) E) :
    Calls Tryz.prog 38 #[.slice s1 m1 c1, .int .i64 E, .slice s2 m2 c2, .slice s3 m3 c3, .slice s4 m4 c4, .slice none m5 c5, .slice s6 m6 c6, .slice s7 m7 c7] w fun e w' =>
      (∃ t x, e = .returned (.tuple #[.pointer none, .iface t x])) ∧ Keeps [] w w' := by
  have HF2 := Lib.hid hf2; have HF7 := Lib.hid hf7
  have H1 := Lib.hid h1; have H2 := Lib.hid h2; have H3 := Lib.hid h3; have H4 := Lib.hid h4; have H6 := Lib.hid h6; have H7 := Lib.hid h7
  have HNB := Lib.hid hnb
  clear hf2 hf7 h1 h2 h3 h4 h6 h7 hnb
  go_enter Tryz.func38, Tryz.ntmps38
  go_wp2_with fail
  refine (ma_NewMod s1 m1 c1 LN _ H1.out hm1).mono ?_
  rintro e w1 ⟨⟨hgt, a, hav, _, hA, _, rfl⟩ | ⟨hle, t, x, rfl⟩, hk1⟩
  rotate_left
  · go_wp2
    go_ret2
    exact ⟨⟨_, _, rfl⟩, hk1⟩
  have HAV := Lib.hid hav
  have HA := Lib.hid hA
  have HK := Lib.hid hk1
  clear hav hA hgt hk1
  go_wp2_with fail
  refine (ma_NewMod s3 m3 c3 LP _ (H3.out.kept HK.out) hm3).mono ?_
  rintro e w2 ⟨⟨hgt, b, hbv, hb30, hB, _, rfl⟩ | ⟨hle, t, x, rfl⟩, hs⟩
  rotate_left
  · replace HK := Lib.hid (HK.out.trans1 hs)
    clear hs
    go_wp2
    go_ret2
    exact ⟨⟨_, _, rfl⟩, HK.out⟩
  have HBV := Lib.hid hbv
  have HB := Lib.hid hB
  replace HK := Lib.hid (HK.out.trans1 hs); replace HA := Lib.hid (HA.out.kept hs)
  clear hbv hB hgt hs
  go_wp2_with fail
  refine (ma_NewMod s4 m4 c4 LQ _ (H4.out.kept HK.out) hm4).mono ?_
  rintro e w3 ⟨⟨hgt, c, hcv, hc30, hC, _, rfl⟩ | ⟨hle, t, x, rfl⟩, hs⟩
  rotate_left
  · replace HK := Lib.hid (HK.out.trans1 hs)
    clear hs
    go_wp2
    go_ret2
    exact ⟨⟨_, _, rfl⟩, HK.out⟩
  have HCV := Lib.hid hcv
  have HC := Lib.hid hC
  replace HK := Lib.hid (HK.out.trans1 hs); replace HA := Lib.hid (HA.out.kept hs); replace HB := Lib.hid (HB.out.kept hs)
  clear hcv hC hgt hs
  go_wp2_with fail
  refine (newNat_any _).mono ?_
  rintro e w4 ⟨p, l, rfl, hx, hp, hl, hk⟩
  go_wp2_with fail
  refine (ma_SetBytes p l 0 0 a _ _ _ LD _ hx (HA.out.kept hk) ((H2.out.kept HK.out).kept hk) (HA.out.old hl).2.2.1 (by omega)).mono ?_
  rintro e w5 ⟨hR, hk'⟩
  have hs := hk.two hp hl hk'
  replace HK := Lib.hid (HK.out.trans1 hs); replace HA := Lib.hid (HA.out.kept hs); replace HB := Lib.hid (HB.out.kept hs); replace HC := Lib.hid (HC.out.kept hs)
  clear hx hk hp hl hk' hs
  rcases hR with ⟨_, hlt, rfl, hx⟩ | ⟨hno, t, x, rfl⟩
  rotate_left
  · have HNO : Hid (¬ bval LD < bval LN) := Lib.hid fun h => hno ⟨HF2.out a.n (by rw [← HAV.out]; exact HA.out.lt) h, by rw [HAV.out]; exact h⟩
    clear hno
    go_wp2
    go_ret2
    exact ⟨⟨_, _, rfl⟩, HK.out⟩
  have HLT := Lib.hid hlt; have HX := Lib.hid hx
  clear hlt hx
  go_wp2_with fail
  refine (newNat_any _).mono ?_
  rintro e w6 ⟨q, r, rfl, hx, hp, hl, hk⟩
  go_wp2_with fail
  refine (ma_SetBytes q r 0 0 b _ _ _ LI _ hx (HB.out.kept hk) ((H7.out.kept HK.out).kept hk) (HB.out.old hl).2.2.1 (by omega)).mono ?_
  rintro e w7 ⟨hR, hk'⟩
  have hs := hk.two hp hl hk'
  replace HK := Lib.hid (HK.out.trans1 hs); replace HA := Lib.hid (HA.out.kept hs); replace HB := Lib.hid (HB.out.kept hs); replace HC := Lib.hid (HC.out.kept hs); replace HX := Lib.hid (HX.out.kept hs)
  clear hx hk hp hl hk' hs
  rcases hR with ⟨_, hlt, rfl, hx⟩ | ⟨hno, t, x, rfl⟩
  rotate_left
  · have HNO : Hid (¬ bval LI < bval LP) := Lib.hid fun h => hno ⟨HF7.out b.n (by rw [← HBV.out]; exact HB.out.lt) h, by rw [HBV.out]; exact h⟩
    clear hno
    go_wp2
    go_ret2
    exact ⟨⟨_, _, rfl⟩, HK.out⟩
  clear hlt hx
  have HNP : Hid (¬ PubOk a.v E) := Lib.hid fun h => HNB.out ⟨by rw [← HAV.out]; exact HA.out.gt, by rw [← HAV.out]; exact h, by rw [← HAV.out]; exact HLT.out⟩
  go_wp2_with fail
  have hka : Keeps [] w7 (w7.alloc (.cells #[.pointer (some ⟨a.m, 0, none⟩), .int .i64 E, .pointer (some ⟨p, 0, none⟩), .pointer (some ⟨b.m, 0, none⟩), .pointer (some ⟨c.m, 0, none⟩), .slice none m5 c5, .slice s6 m6 c6, .pointer (some ⟨q, 0, none⟩), .bool false] 99)) := (Keeps.refl _ _).alloc _
  have hb := alloc_blk w7 (.cells #[.pointer (some ⟨a.m, 0, none⟩), .int .i64 E, .pointer (some ⟨p, 0, none⟩), .pointer (some ⟨b.m, 0, none⟩), .pointer (some ⟨c.m, 0, none⟩), .slice none m5 c5, .slice s6 m6 c6, .pointer (some ⟨q, 0, none⟩), .bool false] 99)
  obtain ⟨wA, hwA⟩ : ∃ wA, wA = w7.alloc (.cells #[.pointer (some ⟨a.m, 0, none⟩), .int .i64 E, .pointer (some ⟨p, 0, none⟩), .pointer (some ⟨b.m, 0, none⟩), .pointer (some ⟨c.m, 0, none⟩), .slice none m5 c5, .slice s6 m6 c6, .pointer (some ⟨q, 0, none⟩), .bool false] 99) := ⟨_, rfl⟩
  rw [← hwA] at hka hb
  rw [← hwA]
  clear hwA
  have hb1 : (wA.setCell ⟨w7.heap.size, 8, none⟩ (.bool true)).heap[w7.heap.size]? = some (.cells #[.pointer (some ⟨a.m, 0, none⟩), .int .i64 E, .pointer (some ⟨p, 0, none⟩), .pointer (some ⟨b.m, 0, none⟩), .pointer (some ⟨c.m, 0, none⟩), .slice none m5 c5, .slice s6 m6 c6, .pointer (some ⟨q, 0, none⟩), .bool true] 99 (0, 0)) := MHdr.modify hb (by simp)
  have hk1 : Keeps [w7.heap.size] wA (wA.setCell ⟨w7.heap.size, 8, none⟩ (.bool true)) := (Keeps.refl _ _).setCell (by simp) _
  have ho := HA.out.old (Nat.le_refl _)
  have HKA := Lib.hid (HK.out.trans1 hka)
  refine (checkPriv_nopub w7.heap.size a E false _ (by rw [cell_of_row _ _ _ _ _ _ hb]; rfl) (by simp [World.frozen?, hb]) ⟨by rw [cell_of_row _ _ _ _ _ _ hb1]; rfl, by rw [cell_of_row _ _ _ _ _ _ hb1]; rfl⟩ ((HA.out.kept hka).keeps hk1 (by intro x hx; simp at hx ⊢; omega)) hE HNP.out).mono ?_
  rintro e w8 ⟨⟨t, x, rfl⟩, hk4⟩
  have HK4 := Lib.hid (HKA.out.newblk HK.out.size hk4)
  clear hb hb1 hk1 ho hka hk4
  go_wp2
  go_ret2
  exact ⟨⟨_, _, rfl⟩, HK4.out⟩

end Go.Proofs.YtnfjmngchapdnaaGreatDoor

/- impl.keyOf of all numbers, where one is missing, and the public key is none. -/
namespace Go.Proofs.YtnfjmngchapdnaaGreatDoor
open Go.RowKit

set_option maxRecDepth 1000000 in
set_option maxHeartbeats 8000000 in
theorem keyOf_all_nil (k : KA) (w : World) (hk : k.is w) (ht : k.tidy) (hnil : k.a5 = none) (hnb : ¬ BareOk (bval k.L1) (bval k.L2) k.E) :
    Calls Tryz.prog 23 #[.agg #[.slice k.a1 k.m1 k.c1, .int .i64 k.E, .slice k.a2 k.m2 k.c2, .slice k.a3 k.m3 k.c3, .slice k.a4 k.m4 k.c4, .slice k.a5 k.m5 k.c5, .slice k.a6 k.m6 k.c6, .slice k.a7 k.m7 k.c7], .int .i64 1] w fun e w' => e = .returned (.pointer none) ∧ Keeps [] w w' := by
  have hb0 : (w.alloc (.cells #[.slice k.a1 k.m1 k.c1, .int .i64 k.E, .slice k.a2 k.m2 k.c2, .slice k.a3 k.m3 k.c3, .slice k.a4 k.m4 k.c4, .slice k.a5 k.m5 k.c5, .slice k.a6 k.m6 k.c6, .slice k.a7 k.m7 k.c7] 24)).heap[w.heap.size]? = some (.cells #[.slice k.a1 k.m1 k.c1, .int .i64 k.E, .slice k.a2 k.m2 k.c2, .slice k.a3 k.m3 k.c3, .slice k.a4 k.m4 k.c4, .slice k.a5 k.m5 k.c5, .slice k.a6 k.m6 k.c6, .slice k.a7 k.m7 k.c7] 24 (0, 0)) := alloc_blk _ _
  have hk0 : Keeps [] w (w.alloc (.cells #[.slice k.a1 k.m1 k.c1, .int .i64 k.E, .slice k.a2 k.m2 k.c2, .slice k.a3 k.m3 k.c3, .slice k.a4 k.m4 k.c4, .slice k.a5 k.m5 k.c5, .slice k.a6 k.m6 k.c6, .slice k.a7 k.m7 k.c7] 24)) := (Keeps.refl _ _).alloc _
  have HB := Lib.hid hb0
  have HK := Lib.hid hk0
  have HI := Lib.hid (hk.kept hk0)
  have HT := Lib.hid ht
  have S0 := key8 hb0
  have hE := hk.E
  have HNIL := Lib.hid hnil
  clear hnil
  have q1 := hk.s1.1; have r1 := ht.t1.1; have q2 := hk.s2.1; have r2 := ht.t2.1; have q3 := hk.s3.1; have r3 := ht.t3.1; have q4 := hk.s4.1; have r4 := ht.t4.1; have q5 := hk.s5.1; have r5 := ht.t5.1; have q6 := hk.s6.1; have r6 := ht.t6.1; have q7 := hk.s7.1; have r7 := ht.t7.1
  clear hb0 hk0 hk ht
  go_enter Tryz.func23, Tryz.ntmps23
  go_wp2_with fail
  refine wp_region_txt [0,0,1,2,0,0,0,0,0,2,0,0,0,2,0,0,0,2,0,0,0,2,0,0,0,2,0,0,0,2,2,0,0,0,0,0] (fun w' => w'.cell? ⟨w.heap.size, 0, none⟩ = some (.slice k.a1 k.m1 k.c1) ∧ w'.cell? ⟨w.heap.size, 1, none⟩ = some (.int .i64 k.E) ∧ w'.cell? ⟨w.heap.size, 2, none⟩ = some (.slice k.a2 k.m2 k.c2) ∧ w'.cell? ⟨w.heap.size, 3, none⟩ = some (.slice k.a3 k.m3 k.c3) ∧ w'.cell? ⟨w.heap.size, 4, none⟩ = some (.slice k.a4 k.m4 k.c4) ∧ w'.cell? ⟨w.heap.size, 5, none⟩ = some (.slice k.a5 k.m5 k.c5) ∧ w'.cell? ⟨w.heap.size, 6, none⟩ = some (.slice k.a6 k.m6 k.c6) ∧ w'.cell? ⟨w.heap.size, 7, none⟩ = some (.slice k.a7 k.m7 k.c7)) (by kernel_rfl) (by kernel_rfl) S0 ?_
  obtain ⟨k0, k1, k2, k3, k4, k5, k6, k7⟩ := S0
  simp only [withMarks]
  repeat (first
    | ((with_reducible refine txt_v (v := ?_) ?_ ?_); (any_goals ((with_reducible refine Yl.mk ?_ ?_); rfl; intro w hSw; (go_simp <;> (try go_bits) <;> (repeat (first | rw [if_pos (by omega)] | rw [if_neg (by omega)])) <;> with_reducible rfl))); try simp only [Act.put, List.setIfInBounds_toArray, List.set_cons_zero, List.set_cons_succ])
    | ((with_reducible refine txt_u ?_ ?_); rfl; try simp only [Act.put, List.setIfInBounds_toArray, List.set_cons_zero, List.set_cons_succ])
    | ((with_reducible refine txt_l (v := ?_) ?_ ?_); (any_goals ((with_reducible refine Reads.mk ?_ ?_); rfl; (go_simp <;> (try go_bits) <;> (repeat (first | rw [if_pos (by omega)] | rw [if_neg (by omega)])) <;> with_reducible rfl))); try simp only [Act.put, List.setIfInBounds_toArray, List.set_cons_zero, List.set_cons_succ])
    | ((with_reducible refine txt_e ?_ ?_); rfl; intro K hK; go_simp; (first | (refine hK _ _ (by first | exact key8 (blk_keeps HB.out (((((((((Keeps.refl [] _).drew.trans1 h1).trans1 h2).trans1 h3).trans1 h4).trans1 h5).trans1 h6).trans1 h7).trans1 h8) (by simp)) | exact key8 (blk_keeps HB.out ((((((((Keeps.refl [] _).drew.trans1 h1).trans1 h2).trans1 h3).trans1 h4).trans1 h5).trans1 h6).trans1 h7) (by simp)) | exact key8 (blk_keeps HB.out (((((((Keeps.refl [] _).drew.trans1 h1).trans1 h2).trans1 h3).trans1 h4).trans1 h5).trans1 h6) (by simp)) | exact key8 (blk_keeps HB.out ((((((Keeps.refl [] _).drew.trans1 h1).trans1 h2).trans1 h3).trans1 h4).trans1 h5) (by simp)) | exact key8 (blk_keeps HB.out (((((Keeps.refl [] _).drew.trans1 h1).trans1 h2).trans1 h3).trans1 h4) (by simp)) | exact key8 (blk_keeps HB.out ((((Keeps.refl [] _).drew.trans1 h1).trans1 h2).trans1 h3) (by simp)) | exact key8 (blk_keeps HB.out (((Keeps.refl [] _).drew.trans1 h1).trans1 h2) (by simp)) | exact key8 (blk_keeps HB.out ((Keeps.refl [] _).drew.trans1 h1) (by simp)) | exact ⟨k0, k1, k2, k3, k4, k5, k6, k7⟩) ?_) | ((first | (go_at_call 38; refine (newPrivAllNil b1 b2 b3 b4 b6 b7 _ _ _ _ _ _ _ _ _ _ _ _ _ _ k.L1 k.L2 k.L3 k.L4 k.L6 k.L7 k.E _ ((((((hO1.kept h2).kept h3).kept h4).kept h5).kept h6).kept h7) (((((hO2.kept h3).kept h4).kept h5).kept h6).kept h7) ((((hO3.kept h4).kept h5).kept h6).kept h7) (((hO4.kept h5).kept h6).kept h7) (hO6.kept h7) hO7 (by omega) (by omega) (by omega) (by omega) (by omega) (by omega) (HT.out.t2.fits q2) (HT.out.t7.fits q7) hE hnb).mono ?_; rintro e8 w8 ⟨⟨t, x, rfl⟩, h8⟩) | (go_at_call 25; (with_reducible refine Calls.mono (clone2 k.a7 k.m7 k.c7 k.L7 _ (HI.out.s7.kept (((((((Keeps.refl [] _).drew.trans1 h1).trans1 h2).trans1 h3).trans1 h4).trans1 h5).trans1 h6)) (by omega)) ?_); rintro e7 w7 ⟨⟨b7, g7, rfl, hO7, hn7⟩, h7⟩) | (go_at_call 25; (with_reducible refine Calls.mono (clone2 k.a6 k.m6 k.c6 k.L6 _ (HI.out.s6.kept ((((((Keeps.refl [] _).drew.trans1 h1).trans1 h2).trans1 h3).trans1 h4).trans1 h5)) (by omega)) ?_); rintro e6 w6 ⟨⟨b6, g6, rfl, hO6, hn6⟩, h6⟩) | (go_at_call 25; (with_reducible refine Calls.mono (clone2 k.a5 k.m5 k.c5 k.L5 _ (HI.out.s5.kept (((((Keeps.refl [] _).drew.trans1 h1).trans1 h2).trans1 h3).trans1 h4)) (by omega)) ?_); rintro e5 w5 ⟨⟨b5, g5, rfl, hO5, hn5⟩, h5⟩; obtain rfl : b5 = none := hn5.2 HNIL.out) | (go_at_call 25; (with_reducible refine Calls.mono (clone2 k.a4 k.m4 k.c4 k.L4 _ (HI.out.s4.kept ((((Keeps.refl [] _).drew.trans1 h1).trans1 h2).trans1 h3)) (by omega)) ?_); rintro e4 w4 ⟨⟨b4, g4, rfl, hO4, hn4⟩, h4⟩) | (go_at_call 25; (with_reducible refine Calls.mono (clone2 k.a3 k.m3 k.c3 k.L3 _ (HI.out.s3.kept (((Keeps.refl [] _).drew.trans1 h1).trans1 h2)) (by omega)) ?_); rintro e3 w3 ⟨⟨b3, g3, rfl, hO3, hn3⟩, h3⟩) | (go_at_call 25; (with_reducible refine Calls.mono (clone2 k.a2 k.m2 k.c2 k.L2 _ (HI.out.s2.kept ((Keeps.refl [] _).drew.trans1 h1)) (by omega)) ?_); rintro e2 w2 ⟨⟨b2, g2, rfl, hO2, hn2⟩, h2⟩) | (go_at_call 25; (with_reducible refine Calls.mono (clone2 k.a1 k.m1 k.c1 k.L1 _ (HI.out.s1.kept (Keeps.refl [] _).drew) (by omega)) ?_); rintro e1 w1 ⟨⟨b1, g1, rfl, hO1, hn1⟩, h1⟩)); dsimp only; refine hK _ _ (by first | exact key8 (blk_keeps HB.out (((((((((Keeps.refl [] _).drew.trans1 h1).trans1 h2).trans1 h3).trans1 h4).trans1 h5).trans1 h6).trans1 h7).trans1 h8) (by simp)) | exact key8 (blk_keeps HB.out ((((((((Keeps.refl [] _).drew.trans1 h1).trans1 h2).trans1 h3).trans1 h4).trans1 h5).trans1 h6).trans1 h7) (by simp)) | exact key8 (blk_keeps HB.out (((((((Keeps.refl [] _).drew.trans1 h1).trans1 h2).trans1 h3).trans1 h4).trans1 h5).trans1 h6) (by simp)) | exact key8 (blk_keeps HB.out ((((((Keeps.refl [] _).drew.trans1 h1).trans1 h2).trans1 h3).trans1 h4).trans1 h5) (by simp)) | exact key8 (blk_keeps HB.out (((((Keeps.refl [] _).drew.trans1 h1).trans1 h2).trans1 h3).trans1 h4) (by simp)) | exact key8 (blk_keeps HB.out ((((Keeps.refl [] _).drew.trans1 h1).trans1 h2).trans1 h3) (by simp)) | exact key8 (blk_keeps HB.out (((Keeps.refl [] _).drew.trans1 h1).trans1 h2) (by simp)) | exact key8 (blk_keeps HB.out ((Keeps.refl [] _).drew.trans1 h1) (by simp)) | exact ⟨k0, k1, k2, k3, k4, k5, k6, k7⟩) ?_)); clear hK K; try simp only [Act.put, List.setIfInBounds_toArray, List.set_cons_zero, List.set_cons_succ]))
  refine txt_nil ?_
  have hs := HK.out.trans1 (((((((((Keeps.refl [] _).drew.trans1 h1).trans1 h2).trans1 h3).trans1 h4).trans1 h5).trans1 h6).trans1 h7).trans1 h8)
  have HS := Lib.hid hs
  clear k0 k1 k2 k3 k4 k5 k6 k7 h1 h2 h3 h4 h5 h6 h7 h8 hs hO1 hn1 hO2 hn2 hO3 hn3 hO4 hn4 hO5 hn5 hO6 hn6 hO7 hn7
  go_wp2
  go_ret
  exact ⟨rfl, HS.out⟩

end Go.Proofs.YtnfjmngchapdnaaGreatDoor

/- The plain law of decryption by remainders: two primes, their powers, and what is put together of them. -/
namespace Go.Proofs.YtnfjmngchapdnaaGreatDoor

theorem n_of_primes {N P Q : Nat} (hp : Pr P) (hq : Pr Q) (h : P * Q % N = 0) (h1 : P < N) (h2 : Q < N) : N = P * Q := by
  have hd : N ∣ P * Q := Nat.dvd_of_mod_eq_zero h
  by_cases hpn : P ∣ N
  · obtain ⟨k, rfl⟩ := hpn
    have hk : k ∣ Q := Nat.dvd_of_mul_dvd_mul_left (by have := hp.1; omega) hd
    rcases hq.2 k hk with rfl | rfl
    · omega
    · rfl
  · have h3 : N ∣ Q := (hp.coprime hpn).dvd_of_dvd_mul_left hd
    have := Nat.le_of_dvd (by have := hq.1; omega) h3
    omega
theorem two_mods {P Q x y : Nat} (hc : Nat.Coprime P Q) (hx : x < P * Q) (hy : y < P * Q) (h1 : x % P = y % P) (h2 : x % Q = y % Q) : x = y := by
  have a : ∀ u v : Nat, u < P * Q → u % P = v % P → u % Q = v % Q → u - v = 0 := by
    intro u v hu g1 g2
    have d := hc.mul_dvd_of_dvd_of_dvd (Nat.dvd_of_mod_eq_zero (Nat.sub_mod_eq_zero_of_mod_eq g1)) (Nat.dvd_of_mod_eq_zero (Nat.sub_mod_eq_zero_of_mod_eq g2))
    exact Nat.eq_zero_of_dvd_of_lt d (by omega)
  have := a x y hx h1 h2
  have := a y x hy h1.symm h2.symm
  omega
theorem crt_dec {N D P Q DP DQ QI c m1 m2 s : Nat} (hp : Pr P) (hq : Pr Q) (hpN : P < N) (hqN : Q < N) (hpq : P * Q % N = 0) (hne : P ≠ Q) (hD : 0 < D) (hDP : 0 < DP) (hDQ : 0 < DQ)
    (h1 : D % (P - 1) = DP % (P - 1)) (h2 : D % (Q - 1) = DQ % (Q - 1)) (hqi : Q % P * QI % P = 1)
    (e1 : m1 = (c % P) ^ DP % P) (e2 : m2 = (c % Q) ^ DQ % Q) (hs1 : m2 % P ≤ m1 → s + m2 % P = m1) (hs2 : m1 < m2 % P → s + m2 % P = m1 + P) :
    (s * QI % P * (Q % N) % N + m2) % N = c ^ D % N := by
  obtain rfl := n_of_primes hp hq hpq hpN hqN
  have p0 := hp.1
  have q0 := hq.1
  have lm2 : m2 < Q := by rw [e2]; exact Nat.mod_lt _ (by omega)
  have e1' : m1 = c ^ D % P := by rw [e1, ← Nat.pow_mod]; exact (pow_exp hp hD hDP h1).symm
  have e2' : m2 = c ^ D % Q := by rw [e2, ← Nat.pow_mod]; exact (pow_exp hq hD hDQ h2).symm
  have ht : s * QI % P < P := Nat.mod_lt _ (by omega)
  have hle : s * QI % P * Q + Q ≤ P * Q := by
    have := Nat.mul_le_mul_right Q (show s * QI % P + 1 ≤ P by omega)
    rw [Nat.add_mul] at this
    omega
  have hcop : Nat.Coprime P Q := by
    refine (hp.coprime (a := Q) fun h => ?_).symm
    rcases hq.2 P h with h | h
    · omega
    · exact hne h
  rw [Nat.mod_eq_of_lt (show Q < P * Q from hqN), Nat.mod_eq_of_lt (show s * QI % P * Q < P * Q by omega), Nat.mod_eq_of_lt (show s * QI % P * Q + m2 < P * Q by omega)]
  refine two_mods hcop (by omega) (Nat.mod_lt _ (Nat.mul_pos (by omega) (by omega))) ?_ ?_
  · rw [Nat.mod_mul_right_mod, ← e1']
    have hsm : (s + m2 % P) % P = m1 % P := by
      rcases Nat.lt_or_ge m1 (m2 % P) with h | h
      · rw [hs2 h, Nat.add_mod_right]
      · rw [hs1 h]
    have hm1 : m1 % P = m1 := Nat.mod_eq_of_lt (by rw [e1']; exact Nat.mod_lt _ (by omega))
    have k : s * QI % P * Q % P = s % P := by
      rw [Nat.mod_mul_mod, Nat.mul_assoc, Nat.mul_mod, Nat.mul_comm QI Q]
      rw [Nat.mod_mul_mod] at hqi
      rw [hqi, Nat.mul_one, Nat.mod_mod]
    rw [Nat.add_mod, k, ← hm1, ← hsm, Nat.add_mod s, Nat.mod_mod]
  · rw [Nat.mod_mul_left_mod, ← e2', Nat.mul_comm, Nat.mul_add_mod, Nat.mod_eq_of_lt lm2]

end Go.Proofs.YtnfjmngchapdnaaGreatDoor
