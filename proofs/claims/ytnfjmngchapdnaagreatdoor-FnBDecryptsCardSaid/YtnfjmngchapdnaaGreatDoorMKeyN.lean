import Derived.Test.YtnfjmngchapdnaaGreatDoorMChkB
import Derived.Test.YtnfjmngchapdnaaGreatDoorMExp
import Derived.Test.YtnfjmngchapdnaaGreatDoorMClone
import Derived.Test.YtnfjmngchapdnaaGreatDoorMPubOf
import Derived.Defers
import Derived.Recover
/- rsa: newPrivateKey, NewPrivateKey. -/
namespace Go.Proofs.YtnfjmngchapdnaaGreatDoor
open Go.RowKit

theorem ma_Exp (p lb k v0 q lq c v : Nat) (a : MA) (s : Option Addr) (mb cb : Nat) (L : List Nat) (w : World) (ho : NatV w p lb k 32 v0) (hx : NatV w q lq a.n c v) (h : a.is w) (hodd : a.v % 2 = 1) (hl : a.l ≠ lb) (hl2 : a.s ≠ lb) (hs : SlB w s mb cb L) (hmb : mb ≤ 8000) :
    Calls Tryz.prog 72 #[.pointer (some ⟨p, 0, none⟩), .pointer (some ⟨q, 0, none⟩), .slice s mb cb, .pointer (some ⟨a.m, 0, none⟩)] w fun e w' =>
      e = .returned (.pointer (some ⟨p, 0, none⟩)) ∧ NatV w' p lb a.n 32 (v ^ bval L % a.v) ∧ Keeps [p, lb] w w' := by
  obtain ⟨m0, ho'⟩ := ModX.toO h hodd
  exact nat_Exp p lb k v0 q lq c v a.m a.p a.l a.r a.s a.n a.v m0 mb cb s L w ho hx ho' hl hl2 hs hmb
def KeyRO (e : Ending) (w' : World) (ok : Prop) (N : Nat) (E : Int) (D P Q DP DQ QI : Nat) : Prop :=
  (ok ∧ ∃ Z : PK, e = .returned (.tuple #[.pointer (some ⟨Z.pk, 0, none⟩), .nilIface]) ∧ Z.is w' ∧ Z.has N E D P Q DP DQ QI) ∨
    (¬ ok ∧ ∃ t x, e = .returned (.tuple #[.pointer none, .iface t x]))
/-- What a private key of its primes asks for. -/
def PrimesOk (N : Nat) (E : Int) (D P Q : Nat) : Prop := P % 2 = 1 ∧ KeyOk N E D P Q (D % (P - 1)) (D % (Q - 1)) (Q ^ (P - 2) % P)

set_option maxRecDepth 1000000 in
set_option maxHeartbeats 8000000 in
theorem newPriv_any (a b c : MA) (d ld D : Nat) (E : Int) (w : World) (ha : a.is w) (hb : b.is w) (hc : c.is w) (hd : NatV w d ld a.n 32 D) (hD : D < a.v) (hb30 : b.n ≤ 30) (hc30 : c.n ≤ 30) (hE : -9223372036854775808 ≤ E ∧ E < 9223372036854775808) :
    Calls Tryz.prog 53 #[.pointer (some ⟨a.m, 0, none⟩), .int .i64 E, .pointer (some ⟨d, 0, none⟩), .pointer (some ⟨b.m, 0, none⟩), .pointer (some ⟨c.m, 0, none⟩)] w fun e w' =>
      KeyRO e w' (PrimesOk a.v E D b.v c.v) a.v E D b.v c.v (D % (b.v - 1)) (D % (c.v - 1)) (c.v ^ (b.v - 2) % b.v) ∧ Keeps [] w w' := by
  have hn31 := ha.n31
  have HA := Lib.hid ha; have HB := Lib.hid hb; have HC := Lib.hid hc; have HD := Lib.hid hd
  have HK : Hid (Keeps [] w w) := Lib.hid (Keeps.refl _ _)
  have hgb := hb.gt; have hgc := hc.gt
  clear ha hb hc hd
  go_enter Tryz.func53, Tryz.ntmps53
  go_wp2_with fail
  refine (ma_Nat b _ HB.out).mono ?_
  rintro e wa ⟨pa, la, rfl, hy, hpa, hla, h1⟩
  have oP := HB.out.old hla
  go_wp2_with fail
  refine (ma_SubOne pa la 32 b.v b _ hy (HB.out.kept h1) oP.2.2.1 (by omega)).mono ?_
  rintro e wb' ⟨rfl, hy, h2⟩
  have h12 := h1.one hla h2
  go_wp2_with fail
  refine (ma_Bytes pa la 32 (b.v - 1) b _ hy (HB.out.kept h12) (by omega)).mono ?_
  rintro e wc ⟨⟨bb, O, rfl, _, hO, hOv⟩, h3⟩
  have h13 := h12.trans1 h3
  have HOv := Lib.hid hOv
  clear hOv
  have hbl := blen_le_n HB.out.lt
  go_wp2_with fail
  refine (ma_NewMod _ _ _ O _ hO (by omega)).mono ?_
  rintro e wd ⟨hR, h4⟩
  have hs := h13.trans1 h4
  clear h1 h2 h3 h4 h12 h13 hO hy hpa hla oP hbl
  rcases hR with ⟨_, m14, hav, hn30, hM, _, rfl⟩ | ⟨hle, t, x, rfl⟩
  rotate_left
  · replace HK := Lib.hid (HK.out.trans1 hs)
    clear hs
    have HLE := Lib.hid hle
    clear hle
    go_wp2
    go_ret2
    exact ⟨.inr ⟨fun h => by have h1 := h.2.p3; have h2 := HLE.out; have h3 := HOv.out; omega, _, _, rfl⟩, HK.out⟩
  rw [HOv.out] at hav
  have HAVm14 := Lib.hid hav
  have HM := Lib.hid hM
  clear hav hM HOv
  replace HK := Lib.hid (HK.out.trans1 hs); replace HA := Lib.hid (HA.out.kept hs); replace HB := Lib.hid (HB.out.kept hs); replace HC := Lib.hid (HC.out.kept hs); replace HD := Lib.hid (HD.out.kept hs)
  clear hs
  go_wp2_with fail
  refine (newNat_any _).mono ?_
  rintro e wa ⟨px, lx, rfl, hx, hp, hl, h1⟩
  have hnM := HM.out.n31
  have o1 := HM.out.old hl; have o2 := HD.out.old hl; have o3 := HD.out.old hp; have o4 := HM.out.old hp
  go_wp2_with fail
  refine (ma_Mod px lx 0 0 d ld _ 32 D m14 _ hx (HD.out.kept h1) (HM.out.kept h1) o1.2.2.1 o2.2 (Ne.symm o3.1) (Ne.symm o4.2.1) (by omega)).mono ?_
  rintro e wb' ⟨rfl, hx, h2⟩
  have h12 := h1.two hp hl h2
  have hml : D % m14.v < m14.v := Nat.mod_lt _ (by have := HM.out.gt; omega)
  go_wp2_with fail
  refine (ma_Bytes px lx 32 _ m14 _ hx (HM.out.kept h12) (Nat.le_of_lt hml)).mono ?_
  rintro e wc ⟨⟨dp, Odp, rfl, _, hO, hOv⟩, h3⟩
  have hs := h12.trans1 h3
  rw [HAVm14.out] at hOv
  have HOvdp := Lib.hid hOv
  have HOdp := Lib.hid hO
  have HSdp : Hid (Fits ((blen m14.v + 7) / 8) (D % (b.v - 1)) (b.v - 1) ∧ (blen m14.v + 7) / 8 ≤ 240) := Lib.hid (by
    refine ⟨fun n h1 h2 => ?_, ?_⟩
    · have := blen_le_n (n := n) (m := m14.v) (by rw [HAVm14.out]; exact h1)
      omega
    · have := blen_le_n HM.out.lt
      omega)
  clear h1 h2 h12 h3 hx hp hl o1 o2 o3 o4 hml hOv hO hnM hn30 HM
  replace HK := Lib.hid (HK.out.trans1 hs); replace HA := Lib.hid (HA.out.kept hs); replace HB := Lib.hid (HB.out.kept hs); replace HC := Lib.hid (HC.out.kept hs); replace HD := Lib.hid (HD.out.kept hs)
  clear hs
  go_wp2_with fail
  refine (ma_Nat c _ HC.out).mono ?_
  rintro e wa ⟨pa, la, rfl, hy, hpa, hla, h1⟩
  have oP := HC.out.old hla
  go_wp2_with fail
  refine (ma_SubOne pa la 32 c.v c _ hy (HC.out.kept h1) oP.2.2.1 (by omega)).mono ?_
  rintro e wb' ⟨rfl, hy, h2⟩
  have h12 := h1.one hla h2
  go_wp2_with fail
  refine (ma_Bytes pa la 32 (c.v - 1) c _ hy (HC.out.kept h12) (by omega)).mono ?_
  rintro e wc ⟨⟨bb, O, rfl, _, hO, hOv⟩, h3⟩
  have h13 := h12.trans1 h3
  have HOv := Lib.hid hOv
  clear hOv
  have hbl := blen_le_n HC.out.lt
  go_wp2_with fail
  refine (ma_NewMod _ _ _ O _ hO (by omega)).mono ?_
  rintro e wd ⟨hR, h4⟩
  have hs := h13.trans1 h4
  clear h1 h2 h3 h4 h12 h13 hO hy hpa hla oP hbl
  rcases hR with ⟨_, m18, hav, hn30, hM, _, rfl⟩ | ⟨hle, t, x, rfl⟩
  rotate_left
  · replace HK := Lib.hid (HK.out.trans1 hs)
    clear hs
    have HLE := Lib.hid hle
    clear hle
    go_wp2
    go_ret2
    exact ⟨.inr ⟨fun h => by have h1 := h.2.q3; have h2 := HLE.out; have h3 := HOv.out; omega, _, _, rfl⟩, HK.out⟩
  rw [HOv.out] at hav
  have HAVm18 := Lib.hid hav
  have HM := Lib.hid hM
  clear hav hM HOv
  replace HK := Lib.hid (HK.out.trans1 hs); replace HA := Lib.hid (HA.out.kept hs); replace HB := Lib.hid (HB.out.kept hs); replace HC := Lib.hid (HC.out.kept hs); replace HD := Lib.hid (HD.out.kept hs)
  replace HOdp := Lib.hid (HOdp.out.kept hs)
  clear hs
  go_wp2_with fail
  refine (newNat_any _).mono ?_
  rintro e wa ⟨px, lx, rfl, hx, hp, hl, h1⟩
  have hnM := HM.out.n31
  have o1 := HM.out.old hl; have o2 := HD.out.old hl; have o3 := HD.out.old hp; have o4 := HM.out.old hp
  go_wp2_with fail
  refine (ma_Mod px lx 0 0 d ld _ 32 D m18 _ hx (HD.out.kept h1) (HM.out.kept h1) o1.2.2.1 o2.2 (Ne.symm o3.1) (Ne.symm o4.2.1) (by omega)).mono ?_
  rintro e wb' ⟨rfl, hx, h2⟩
  have h12 := h1.two hp hl h2
  have hml : D % m18.v < m18.v := Nat.mod_lt _ (by have := HM.out.gt; omega)
  go_wp2_with fail
  refine (ma_Bytes px lx 32 _ m18 _ hx (HM.out.kept h12) (Nat.le_of_lt hml)).mono ?_
  rintro e wc ⟨⟨dq, Odq, rfl, _, hO, hOv⟩, h3⟩
  have hs := h12.trans1 h3
  rw [HAVm18.out] at hOv
  have HOvdq := Lib.hid hOv
  have HOdq := Lib.hid hO
  have HSdq : Hid (Fits ((blen m18.v + 7) / 8) (D % (c.v - 1)) (c.v - 1) ∧ (blen m18.v + 7) / 8 ≤ 240) := Lib.hid (by
    refine ⟨fun n h1 h2 => ?_, ?_⟩
    · have := blen_le_n (n := n) (m := m18.v) (by rw [HAVm18.out]; exact h1)
      omega
    · have := blen_le_n HM.out.lt
      omega)
  clear h1 h2 h12 h3 hx hp hl o1 o2 o3 o4 hml hOv hO hnM hn30 HM
  replace HK := Lib.hid (HK.out.trans1 hs); replace HA := Lib.hid (HA.out.kept hs); replace HB := Lib.hid (HB.out.kept hs); replace HC := Lib.hid (HC.out.kept hs); replace HD := Lib.hid (HD.out.kept hs)
  replace HOdp := Lib.hid (HOdp.out.kept hs)
  clear hs
  go_wp2_with fail
  refine (ma_Nat b _ HB.out).mono ?_
  rintro e wa ⟨pa, la, rfl, hy, hpa, hla, hs⟩
  have hy0 := hy
  clear hpa hla
  replace HK := Lib.hid (HK.out.trans1 hs); replace HA := Lib.hid (HA.out.kept hs); replace HB := Lib.hid (HB.out.kept hs); replace HC := Lib.hid (HC.out.kept hs); replace HD := Lib.hid (HD.out.kept hs)
  replace HOdp := Lib.hid (HOdp.out.kept hs)
  replace HOdq := Lib.hid (HOdq.out.kept hs)
  clear hs
  go_wp2_with fail
  refine (nat_IsOdd pa la _ 32 _ _ hy (by omega)).mono ?_
  rintro e wb' ⟨r, rfl, hr, rfl⟩
  rcases hr.case with ⟨rfl, hq⟩ | ⟨rfl, hq⟩
  · have HQ := Lib.hid hq
    clear hq hr hy hy0
    go_wp2_with fail
    refine (errors_New _ _).mono ?_
    rintro e wz ⟨⟨bz, rfl, _, _⟩, hs⟩
    replace HK := Lib.hid (HK.out.trans1 hs)
    clear hs
    go_wp2
    go_ret2
    exact ⟨.inr ⟨fun h => HQ.out h.1, _, _, rfl⟩, HK.out⟩
  have HODD := Lib.hid hq
  clear hq hr hy hy0
  go_wp2_with fail
  refine (ma_Nat b _ HB.out).mono ?_
  rintro e wa ⟨pa, la, rfl, hy, hpa, hla, h1⟩
  have oP := HB.out.old hla
  have hb3 : 2 < b.v := by have := HODD.out; omega
  go_wp2_with fail
  refine (ma_SubOne pa la 32 b.v b _ hy (HB.out.kept h1) oP.2.2.1 (by omega)).mono ?_
  rintro e wb' ⟨rfl, hy, h2⟩
  have h12 := h1.one hla h2
  go_wp2_with fail
  refine (ma_SubOne pa la 32 (b.v - 1) b _ hy (HB.out.kept h12) oP.2.2.1 (by omega)).mono ?_
  rintro e wb2 ⟨rfl, hy, h2⟩
  have h13 := h12.one hla h2
  go_wp2_with fail
  refine (ma_Bytes pa la 32 (b.v - 1 - 1) b _ hy (HB.out.kept h13) (by omega)).mono ?_
  rintro e wc ⟨⟨bb, O, rfl, _, hO, hOv⟩, h3⟩
  have hs := h13.trans1 h3
  have HOv := Lib.hid hOv
  have HO := Lib.hid hO
  clear hOv h1 h2 h12 h13 h3 hO hy hpa hla oP
  replace HK := Lib.hid (HK.out.trans1 hs); replace HA := Lib.hid (HA.out.kept hs); replace HB := Lib.hid (HB.out.kept hs); replace HC := Lib.hid (HC.out.kept hs); replace HD := Lib.hid (HD.out.kept hs)
  replace HOdp := Lib.hid (HOdp.out.kept hs)
  replace HOdq := Lib.hid (HOdq.out.kept hs)
  clear hs
  go_wp2_with fail
  refine (newNat_any _).mono ?_
  rintro e wa ⟨px, lx, rfl, hx, hp, hl, h1⟩
  have o1 := HB.out.old hl; have o4 := HB.out.old hp
  go_wp2_with fail
  refine (ma_Nat c _ (HC.out.kept h1)).mono ?_
  rintro e wb' ⟨pa, la, rfl, hy, hpa, hla, h2⟩
  have h12 := h1.trans1 h2
  have o2 := hx.old hpa; have o3 := hx.old hla
  go_wp2_with fail
  refine (ma_Mod px lx 0 0 pa la _ 32 c.v b _ (hx.kept h2) hy (HB.out.kept h12) o1.2.2.1 (Ne.symm o3.2) o2.1 (Ne.symm o4.2.1) (by omega)).mono ?_
  rintro e wc2 ⟨rfl, hx, h3⟩
  have h13 := h12.two hp hl h3
  have hbl := blen_le_n HB.out.lt
  go_wp2_with fail
  refine (ma_Exp px lx b.n (c.v % b.v) px lx 32 (c.v % b.v) b _ _ _ O _ hx hx (HB.out.kept h13) HODD.out o1.2.2.1 o1.2.2.2.2 (HO.out.kept h13) (by omega)).mono ?_
  rintro e wd2 ⟨rfl, hx, h4⟩
  have hs := h13.two hp hl h4
  have hqi : (c.v % b.v) ^ bval O % b.v = c.v ^ (b.v - 2) % b.v := by
    rw [HOv.out, show b.v - 1 - 1 = b.v - 2 by omega, ← Nat.pow_mod]
  rw [hqi] at hx
  have HX := Lib.hid hx
  clear h1 h2 h3 h4 h12 h13 hx hy hp hl hpa hla o1 o2 o3 o4 hbl hqi HO HOv
  replace HK := Lib.hid (HK.out.trans1 hs); replace HA := Lib.hid (HA.out.kept hs); replace HB := Lib.hid (HB.out.kept hs); replace HC := Lib.hid (HC.out.kept hs); replace HD := Lib.hid (HD.out.kept hs)
  replace HOdp := Lib.hid (HOdp.out.kept hs)
  replace HOdq := Lib.hid (HOdq.out.kept hs)
  clear hs
  go_wp2_with fail
  have hka : Keeps [] wd2 (wd2.alloc (.cells (PK.cells ⟨wd2.heap.size, a, E, d, ld, D, b, c, ⟨dp, 0, none⟩, (blen m14.v + 7) / 8, (blen m14.v + 7) / 8, Odp, some ⟨dq, 0, none⟩, (blen m18.v + 7) / 8, (blen m18.v + 7) / 8, Odq, px, lx, c.v ^ (b.v - 2) % b.v⟩ false) 99)) := (Keeps.refl _ _).alloc _
  have hI : PK.is ⟨wd2.heap.size, a, E, d, ld, D, b, c, ⟨dp, 0, none⟩, (blen m14.v + 7) / 8, (blen m14.v + 7) / 8, Odp, some ⟨dq, 0, none⟩, (blen m18.v + 7) / 8, (blen m18.v + 7) / 8, Odq, px, lx, c.v ^ (b.v - 2) % b.v⟩ (wd2.alloc (.cells (PK.cells ⟨wd2.heap.size, a, E, d, ld, D, b, c, ⟨dp, 0, none⟩, (blen m14.v + 7) / 8, (blen m14.v + 7) / 8, Odp, some ⟨dq, 0, none⟩, (blen m18.v + 7) / 8, (blen m18.v + 7) / 8, Odq, px, lx, c.v ^ (b.v - 2) % b.v⟩ false) 99)) :=
    ⟨⟨false, alloc_blk _ _⟩, HA.out.kept hka, HB.out.kept hka, HC.out.kept hka, HD.out.kept hka, HX.out.kept hka, HOdp.out.kept hka, HOdq.out.kept hka, HSdp.out.2, HSdq.out.2, hE, hb30, hc30⟩
  have HKA := Lib.hid (HK.out.trans1 hka)
  refine (checkPriv_any ⟨wd2.heap.size, a, E, d, ld, D, b, c, ⟨dp, 0, none⟩, (blen m14.v + 7) / 8, (blen m14.v + 7) / 8, Odp, some ⟨dq, 0, none⟩, (blen m18.v + 7) / 8, (blen m18.v + 7) / 8, Odq, px, lx, c.v ^ (b.v - 2) % b.v⟩ _ hI (by rw [HOvdp.out]; exact HSdp.out.1) (by rw [HOvdq.out]; exact HSdq.out.1)).mono ?_
  rintro e w8 ⟨⟨v, rfl, ⟨hok, rfl⟩ | ⟨hno, t, x, rfl⟩⟩, hI4, hk4⟩
  · have HI4 := Lib.hid hI4; have HK4 := Lib.hid (HKA.out.newblk HK.out.size hk4)
    have HOK : Hid (PrimesOk a.v E D b.v c.v) := Lib.hid (by
      have h := hok.toKey hD (Nat.mod_lt _ (by omega))
      refine ⟨HODD.out, ?_⟩
      rw [← HOvdp.out, ← HOvdq.out]; exact h)
    clear hI hI4 hka hk4 hok
    go_wp2
    go_ret2
    exact ⟨.inl ⟨HOK.out, _, rfl, HI4.out, ⟨rfl, rfl, rfl, rfl, rfl, HOvdp.out, HOvdq.out, rfl⟩⟩, HK4.out⟩
  · have HK4 := Lib.hid (HKA.out.newblk HK.out.size hk4)
    have HOK : Hid (¬ PrimesOk a.v E D b.v c.v) := Lib.hid fun h => hno (KeyOk.toPriv (by
      show KeyOk a.v E D b.v c.v (bval Odp) (bval Odq) _
      rw [HOvdp.out, HOvdq.out]; exact h.2))
    clear hI hI4 hka hk4 hno
    go_wp2
    go_ret2
    exact ⟨.inr ⟨HOK.out, _, _, rfl⟩, HK4.out⟩

set_option maxRecDepth 1000000 in
set_option maxHeartbeats 8000000 in
theorem newPrivPrimes (s1 s2 s3 s4 : Option Addr) (m1 c1 m2 c2 m3 c3 m4 c4 : Nat) (LN LD LP LQ : List Nat) (E : Int) (w : World)
    (h1 : SlB w s1 m1 c1 LN) (h2 : SlB w s2 m2 c2 LD) (h3 : SlB w s3 m3 c3 LP) (h4 : SlB w s4 m4 c4 LQ)
    (hm1 : m1 ≤ 240) (hm2 : m2 ≤ 240) (hm3 : m3 ≤ 240) (hm4 : m4 ≤ 240) (hf2 : Fits m2 (bval LD) (bval LN)) (hE : -9223372036854775808 ≤ E ∧ E < 9223372036854775808) :
    Calls Tryz.prog 37 #[.slice s1 m1 c1, .int .i64 E, .slice s2 m2 c2, .slice s3 m3 c3, .slice s4 m4 c4] w fun e w' =>
      KeyRO e w' (PrimesOk (bval LN) E (bval LD) (bval LP) (bval LQ)) (bval LN) E (bval LD) (bval LP) (bval LQ) (bval LD % (bval LP - 1)) (bval LD % (bval LQ - 1)) (bval LQ ^ (bval LP - 2) % bval LP) ∧ Keeps [] w w' := by
  have HF2 := Lib.hid hf2
  have H1 := Lib.hid h1; have H2 := Lib.hid h2; have H3 := Lib.hid h3; have H4 := Lib.hid h4
  clear hf2 h1 h2 h3 h4
  go_enter Tryz.func37, Tryz.ntmps37
  go_wp2_with fail
  refine (ma_NewMod s1 m1 c1 LN _ H1.out hm1).mono ?_
  rintro e w1 ⟨⟨hgt, a, hav, _, hA, _, rfl⟩ | ⟨hle, t, x, rfl⟩, hk1⟩
  rotate_left
  · go_wp2
    go_ret2
    exact ⟨.inr ⟨fun h => by have := h.2.pN; have := h.2.p3; omega, _, _, rfl⟩, hk1⟩
  have HAV := Lib.hid hav
  have HA := Lib.hid hA
  have HK := Lib.hid hk1
  clear hav hA hgt hk1
  go_wp2_with fail
  refine (ma_NewMod s3 m3 c3 LP _ (H3.out.kept HK.out) hm3).mono ?_
  rintro e w2 ⟨⟨hgt, b, hbv, hb30, hB, _, rfl⟩ | ⟨hle, t, x, rfl⟩, hs⟩
  rotate_left
  · replace HK := Lib.hid (HK.out.trans1 hs)
    clear hs
    go_wp2
    go_ret2
    exact ⟨.inr ⟨fun h => by have := h.2.p3; omega, _, _, rfl⟩, HK.out⟩
  have HBV := Lib.hid hbv
  have HB := Lib.hid hB
  replace HK := Lib.hid (HK.out.trans1 hs); replace HA := Lib.hid (HA.out.kept hs)
  clear hbv hB hgt hs
  go_wp2_with fail
  refine (ma_NewMod s4 m4 c4 LQ _ (H4.out.kept HK.out) hm4).mono ?_
  rintro e w3 ⟨⟨hgt, c, hcv, hc30, hC, _, rfl⟩ | ⟨hle, t, x, rfl⟩, hs⟩
  rotate_left
  · replace HK := Lib.hid (HK.out.trans1 hs)
    clear hs
    go_wp2
    go_ret2
    exact ⟨.inr ⟨fun h => by have := h.2.q3; omega, _, _, rfl⟩, HK.out⟩
  have HCV := Lib.hid hcv
  have HC := Lib.hid hC
  replace HK := Lib.hid (HK.out.trans1 hs); replace HA := Lib.hid (HA.out.kept hs); replace HB := Lib.hid (HB.out.kept hs)
  clear hcv hC hgt hs
  go_wp2_with fail
  refine (newNat_any _).mono ?_
  rintro e w4 ⟨p, l, rfl, hx, hp, hl, hk⟩
  go_wp2_with fail
  refine (ma_SetBytes p l 0 0 a _ _ _ LD _ hx (HA.out.kept hk) ((H2.out.kept HK.out).kept hk) (HA.out.old hl).2.2.1 (by omega)).mono ?_
  rintro e w5 ⟨hR, hk'⟩
  have hs := hk.two hp hl hk'
  replace HK := Lib.hid (HK.out.trans1 hs); replace HA := Lib.hid (HA.out.kept hs); replace HB := Lib.hid (HB.out.kept hs); replace HC := Lib.hid (HC.out.kept hs)
  clear hx hk hp hl hk' hs
  rcases hR with ⟨_, hlt, rfl, hx⟩ | ⟨hno, t, x, rfl⟩
  rotate_left
  · have HNO : Hid (¬ bval LD < bval LN) := Lib.hid fun h => hno ⟨HF2.out a.n (by rw [← HAV.out]; exact HA.out.lt) h, by rw [HAV.out]; exact h⟩
    clear hno
    go_wp2
    go_ret2
    exact ⟨.inr ⟨fun h => HNO.out h.2.lt, _, _, rfl⟩, HK.out⟩
  have HX := Lib.hid hx
  clear hx
  go_wp2_with fail
  refine (newPriv_any a b c p l (bval LD) E _ HA.out HB.out HC.out HX.out hlt hb30 hc30 hE).mono ?_
  rintro e w6 ⟨hR, hs⟩
  rw [HAV.out, HBV.out, HCV.out] at hR
  replace HK := Lib.hid (HK.out.trans1 hs)
  clear hs hlt
  rcases hR with ⟨hok, Z, rfl, hI, hh⟩ | ⟨hno, t, x, rfl⟩
  · have HOK := Lib.hid hok; have HI := Lib.hid hI; have HH := Lib.hid hh
    clear hok hI hh
    go_wp2
    go_ret2
    exact ⟨.inl ⟨HOK.out, Z, rfl, HI.out, HH.out⟩, HK.out⟩
  · have HNO := Lib.hid hno
    clear hno
    go_wp2
    go_ret2
    exact ⟨.inr ⟨HNO.out, _, _, rfl⟩, HK.out⟩

end Go.Proofs.YtnfjmngchapdnaaGreatDoor

/- slices.Clone and bytes.Clone of bytes: nil stays nil, and nothing else turns nil. -/
namespace Go.Proofs.YtnfjmngchapdnaaGreatDoor
open Go.RowKit

def CloneR (e : Ending) (w' : World) (a : Option Addr) (m : Nat) (L : List Nat) : Prop :=
  ∃ a' c', e = .returned (.slice a' m c') ∧ SlB w' a' m c' L ∧ (a' = none ↔ a = none)

set_option maxHeartbeats 2000000 in
set_option maxRecDepth 100000 in
theorem clone2 (a : Option Addr) (m c : Nat) (L : List Nat) (w : World) (hs : SlB w a m c L) (hm : m ≤ 100000) :
    Calls Tryz.prog 25 #[.slice a m c] w fun e w' =>
      CloneR e w' a m L ∧ Keeps [] w w' := by
  obtain ⟨i0, hi, hz0, hz1, hz2⟩ := info_parts info_byte
  have hu := und_bytes
  have q22 : ∀ (w : World) (a : Option Addr) (n c n' c' : Nat), (binOp .eql 22 (.slice a n c) (.slice none n' c')).run Tryz.prog w = .ok (.bool a.isNone) w := fun w a n c n' c' => Lib.run_eql_slice_nil w _ _ a n c n' c' und_bytes
  have HS := Lib.hid hs
  obtain ⟨h1, h2, h3, h4⟩ := hs
  rcases a with _ | ad
  · have hL : L = [] := by
      rcases List.eq_nil_or_concat L with h | ⟨M, x, h⟩
      · exact h
      · obtain ⟨b, o, e, _⟩ := h4 (by rw [h]; simp)
        simp at e
    clear h4
    have hm0 : m = 0 := by rw [← h1, hL]; rfl
    subst hm0
    subst hL
    go_enter Tryz.func25, Tryz.ntmps25
    go_wp2
    go_ret
    exact ⟨⟨none, 0, rfl, ⟨rfl, Nat.le_refl _, h3, fun h => absurd rfl h⟩, Iff.rfl⟩, Keeps.refl _ _⟩
  · have H4 := Lib.hid h4
    clear h4
    go_enter Tryz.func25, Tryz.ntmps25
    go_wp2_with (at_builtin; refine wpList_append_own _ rfl _ _ 22 rfl w.heap.size 5 i0 (.int .u8 0) 1 1 hu hi hz0 hz1 hz2 rfl (by decide) _ _ _ rfl (World.ownsRow_made w #[] 0 (Nat.le_refl _) (Nat.zero_le _) rfl) ad m c (u8s L) rfl ?qc1 ?qc2 ?qc3 ?qc4 ?qc5 ?qc6 ?_)
    case qc1 => simp [u8s, h1]
    case qc2 =>
      intro j u hj
      have hjn : j < L.length := by
        have := (List.getElem?_eq_some_iff.1 hj).1
        simpa [u8s] using this
      obtain ⟨b, o, e, hb, hB⟩ := H4.out (by intro h; simp [h] at hjn)
      have e' : ad = ⟨b, o, none⟩ := by simpa using e
      subst e'
      have h5 := hB j hjn
      rw [Addr.add_lit]
      refine Lib.cell?_alloc_some _ ?_
      rw [h5]
      simpa [u8s, hjn] using hj
    case qc3 => intro u hu; obtain ⟨x, _, rfl⟩ := List.mem_map.1 hu; rfl
    case qc4 => unfold maxLen; omega
    case qc5 => omega
    case qc6 => simp
    intro v' w1 hown hgrow hnil
    have HNIL := Lib.hid hnil
    clear hnil
    go_wp2
    go_ret
    have hk : Keeps [] w w1 := Keeps.below (((Below.refl _ w).alloc (Nat.le_refl _) _).grown hgrow (by simp) (by intro k hk; simp [Value.ownBlock] at hk; omega)) rfl
    have hown' : w1.ownsRow w.heap.size 5 1 v' m (u8s L) := by simpa using hown
    obtain ⟨a', c', rfl, h5, h6⟩ := SlB.of_own hown' h3
    refine ⟨⟨a', c', rfl, h5, fun h => ?_, fun h => by cases h⟩, hk⟩
    subst h
    rcases hown'.2 with ⟨hv, _⟩ | ⟨g, cap, cur, hv, _⟩
    · exact absurd hv (by simpa using HNIL.out)
    · simp at hv


end Go.Proofs.YtnfjmngchapdnaaGreatDoor

/- rsa: Export of a private key. -/
namespace Go.Proofs.YtnfjmngchapdnaaGreatDoor
open Go.RowKit

/-- A slice of bytes whose number is x. -/
def SlV (w : World) (v : Value) (x : Nat) : Prop := ∃ a n c L, v = .slice a n c ∧ SlB w a n c L ∧ bval L = x ∧ n ≤ 250
theorem SlV.kept {w w' : World} {v : Value} {x : Nat} (h : SlV w v x) (hk : Keeps [] w w') : SlV w' v x := by
  obtain ⟨a, n, c, L, h1, h2, h3, h4⟩ := h
  exact ⟨a, n, c, L, h1, h2.kept hk, h3, h4⟩
def ExportR (e : Ending) (w' : World) (N : Nat) (E : Int) (D P Q DP DQ QI : Nat) : Prop :=
  ∃ v1 v2 v3 v4 v5 v6 v7, e = .returned (.tuple #[v1, .int .i64 E, v2, v3, v4, v5, v6, v7]) ∧ SlV w' v1 N ∧ SlV w' v2 D ∧ SlV w' v3 P ∧ SlV w' v4 Q ∧ SlV w' v5 DP ∧ SlV w' v6 DQ ∧ SlV w' v7 QI
def ExportB (e : Ending) (w' : World) (N : Nat) (E : Int) (D : Nat) : Prop :=
  ∃ v1 v2, e = .returned (.tuple #[v1, .int .i64 E, v2, .slice none 0 0, .slice none 0 0, .slice none 0 0, .slice none 0 0, .slice none 0 0]) ∧ SlV w' v1 N ∧ SlV w' v2 D

end Go.Proofs.YtnfjmngchapdnaaGreatDoor

/- impl.kept, impl.BPublic. -/
namespace Go.Proofs.YtnfjmngchapdnaaGreatDoor
open Go.RowKit

theorem kept_idle (p : Addr) (w : World) :
    CallsD Tryz.prog 22 #[.pointer (some p)] .returning w fun e u' w' => e = .returned (.tuple #[]) ∧ u' = .returning ∧ w' = w := by
  refine callsD_of_wpS Tryz.func22 rfl fun c₀ cs hu => ?_
  apply wpS_seq
  apply wpS_region
  simp [wpOpsS, go_sem, recoverD, hu, Tryz.ntmps22, Exit.thenS]
  refine wpS_cond (t := false) (by simp [Act.eval, Array.replicate]) ?_
  simp only [Bool.false_eq_true, if_false]
  refine wpS_of_wp (wp_skip ?_)
  cases c₀
  simp_all [bodyPostS, results, Tryz.results22]

set_option maxRecDepth 100000 in
set_option maxHeartbeats 2000000 in
theorem bPublic_any (a : Option Addr) (m cb : Nat) (L : List Nat) (E : Int) (a2 a3 a4 a5 a6 a7 : Option Addr) (n2 c2 n3 c3 n4 c4 n5 c5 n6 c6 n7 c7 : Nat) (w : World) (hs : SlB w a m cb L) (hm : m ≤ 240) (hE : -9223372036854775808 ≤ E ∧ E < 9223372036854775808) :
    Calls Tryz.prog 17 #[.agg #[.slice a m cb, .int .i64 E, .slice a2 n2 c2, .slice a3 n3 c3, .slice a4 n4 c4, .slice a5 n5 c5, .slice a6 n6 c6, .slice a7 n7 c7]] w fun e w' =>
      (∃ b, e = .returned (.bool b) ∧ (b = true ↔ (1 < bval L ∧ PubOk (bval L) E))) ∧ Keeps [] w w' := by
  have hk0 : Keeps [] w ((w.alloc (.cells #[Value.slice a m cb, .int .i64 E, .slice a2 n2 c2, .slice a3 n3 c3, .slice a4 n4 c4, .slice a5 n5 c5, .slice a6 n6 c6, .slice a7 n7 c7] 24)).alloc (.cells #[.bool false] 4)) := ((Keeps.refl _ _).alloc _).alloc _
  have hb0 : ((w.alloc (.cells #[Value.slice a m cb, .int .i64 E, .slice a2 n2 c2, .slice a3 n3 c3, .slice a4 n4 c4, .slice a5 n5 c5, .slice a6 n6 c6, .slice a7 n7 c7] 24)).alloc (.cells #[.bool false] 4)).heap[w.heap.size + 1]? = some (.cells #[.bool false] 4 (0, 0)) := by
    show ((w.heap.push _).push _)[w.heap.size + 1]? = _
    rw [Array.getElem?_push, if_pos (by simp)]
  have HK0 := Lib.hid hk0; have HB0 := Lib.hid hb0
  clear hk0 hb0
  go_enter_defers Tryz.func17, Tryz.ntmps17
  go_wp2_with fail
  refine (publicOf_any a m cb L E a2 a3 a4 a5 a6 a7 n2 c2 n3 c3 n4 c4 n5 c5 n6 c6 n7 c7 _ (hs.kept HK0.out) hm hE).mono ?_
  rintro e w1 ⟨⟨h1, h2, pp, pm, pn, ln, pr, lr, n, rfl, _, _, _⟩ | ⟨hno, rfl⟩, hk1⟩
  · have hb2 := blk_keeps HB0.out hk1 (by simp)
    have cc := cell_of_one hb2
    have ff := free_of_one hb2
    go_wp2
    refine leaves_cons (f := 22) (args := #[.pointer (some ⟨w.heap.size + 1, 0, none⟩)]) (by simp) (by simp [go_sem]) ?_
    refine (kept_idle ⟨w.heap.size + 1, 0, none⟩ _).mono ?_
    rintro e u' w'' ⟨rfl, rfl, rfl⟩
    have hb3 := one_setCell (u := .bool true) hb2
    have d3 := cell_of_one hb3
    have hk3 := (HK0.out.trans1 hk1).setCell (p := ⟨w.heap.size + 1, 0, none⟩) (fun h => absurd h (by simp)) (.bool true)
    simp [Leaves, settle, results, Tryz.results17, go_sem, d3]
    exact ⟨⟨h1, h2⟩, hk3⟩
  · have hb2 := blk_keeps HB0.out hk1 (by simp)
    have cc := cell_of_one hb2
    have ff := free_of_one hb2
    go_wp2
    refine leaves_cons (f := 22) (args := #[.pointer (some ⟨w.heap.size + 1, 0, none⟩)]) (by simp) (by simp [go_sem]) ?_
    refine (kept_idle ⟨w.heap.size + 1, 0, none⟩ _).mono ?_
    rintro e u' w'' ⟨rfl, rfl, rfl⟩
    have hb3 := one_setCell (u := .bool false) hb2
    have d3 := cell_of_one hb3
    have hk3 := (HK0.out.trans1 hk1).setCell (p := ⟨w.heap.size + 1, 0, none⟩) (fun h => absurd h (by simp)) (.bool false)
    simp [Leaves, settle, results, Tryz.results17, go_sem, d3]
    exact ⟨fun h h2 => hno ⟨h, h2⟩, hk3⟩

end Go.Proofs.YtnfjmngchapdnaaGreatDoor

/- laws: zzFits4, bTidy, bAwake. -/
namespace Go.Proofs.YtnfjmngchapdnaaGreatDoor
open Go.RowKit

set_option maxRecDepth 100000 in
set_option maxHeartbeats 2000000 in
theorem zzFits4_any (E : Int) (a a2 a3 a4 a5 a6 a7 : Option Addr) (m cb n2 c2 n3 c3 n4 c4 n5 c5 n6 c6 n7 c7 : Nat) (w : World) :
    Calls Tryz.prog 4 #[.agg #[.slice a m cb, .int .i64 E, .slice a2 n2 c2, .slice a3 n3 c3, .slice a4 n4 c4, .slice a5 n5 c5, .slice a6 n6 c6, .slice a7 n7 c7]] w fun e w' =>
      (∃ v, e = .returned v ∧ ∃ b, v = .bool b) ∧ Keeps [] w w' := by
  have hk0 : Keeps [] w (w.alloc (.cells #[Value.slice a m cb, .int .i64 E, .slice a2 n2 c2, .slice a3 n3 c3, .slice a4 n4 c4, .slice a5 n5 c5, .slice a6 n6 c6, .slice a7 n7 c7] 24)) := (Keeps.refl _ _).alloc _
  have HK := Lib.hid hk0
  clear hk0
  go_enter Tryz.func4, Tryz.ntmps4
  go_wp2
  all_goals (go_ret; exact ⟨⟨_, rfl, _, rfl⟩, HK.out⟩)

def Tidy (L : List Nat) : Prop := L.length ≤ 240 ∧ L.head? ≠ some 0

set_option maxRecDepth 100000 in
set_option maxHeartbeats 2000000 in
theorem bTidy_any (b k c : Nat) (A : Nat → Option Addr) (N C : Nat → Nat) (LL : Nat → List Nat) (w : World) (hk : k ≤ 1000)
    (hc : ∀ i, i < k → w.cell? ⟨b, i, none⟩ = some (.slice (A i) (N i) (C i))) (hs : ∀ i, i < k → SlB w (A i) (N i) (C i) (LL i)) :
    Calls Tryz.prog 12 #[.slice (some ⟨b, 0, none⟩) k c] w fun e w' =>
      Says e (∀ i, i < k → Tidy (LL i)) ∧ w' = w := by
  have HC := Lib.hid hc; have HS := Lib.hid hs
  clear hc hs
  go_enter Tryz.func12, Tryz.ntmps12
  go_wp2
  go_loopw [3] (fun ii wr => ∃ i : Nat, ii = .int .i64 (i : Int) ∧ i ≤ k ∧ Hid (∀ j, j < i → Tidy (LL j)) ∧ Hid (wr = w)) (fun ii _ => k - (intOf ii).toNat)
  case atStart => exact ⟨0, by go_num, by omega, Lib.hid (fun j h => by omega), Lib.hid rfl⟩
  case round =>
    obtain ⟨i, rfl, hi, HT, hw⟩ := hrel
    have hw' := hw.out
    subst hw'
    by_cases hlt : i < k
    · have i1 : (i : Int) < (k : Int) := by omega
      have cc := HC.out i hlt
      obtain ⟨g1, g2, g3, g4⟩ := HS.out i hlt
      obtain ⟨a, ha⟩ : ∃ a, a = A i := ⟨_, rfl⟩
      obtain ⟨m, hm⟩ : ∃ m, m = N i := ⟨_, rfl⟩
      obtain ⟨c', hc'⟩ : ∃ c', c' = C i := ⟨_, rfl⟩
      obtain ⟨L, hL⟩ : ∃ L, L = LL i := ⟨_, rfl⟩
      rw [← ha, ← hm, ← hc'] at cc
      rw [← hm] at g1 g2
      rw [← hL] at g1 g3 g4
      rw [← ha] at g4
      rw [← hc'] at g2
      have HL := Lib.hid hL
      clear ha hm hc' hL
      rcases L with _ | ⟨x, L⟩
      · have hm0 : m = 0 := by rw [← g1]; rfl
        subst hm0
        clear g4
        go_wp2
        refine ⟨⟨i + 1, by go_num, by omega, Lib.hid (fun j hj => ?_), Lib.hid trivial⟩, by simp [intOf]; omega⟩
        rcases Nat.lt_or_ge j i with h | h
        · exact HT.out j h
        · have : j = i := by omega
          subst this
          rw [← HL.out]
          exact ⟨by simp, by simp⟩
      · obtain ⟨bb, o, rfl, hbb, hB⟩ := g4 (by simp)
        have cx := hB 0 (by simp)
        simp only [List.getElem_cons_zero, Nat.add_zero] at cx
        have i2 : (0 : Int) < (m : Int) := by simp at g1; omega
        clear hB g4
        by_cases h240 : m ≤ 240
        · have i3 : ¬ (m : Int) > 240 := by omega
          by_cases hx : (x : Int) = 0
          · go_wp2
            go_ret
            refine ⟨Says.no (fun h => ?_), rfl⟩
            have h1 := h i hlt
            rw [← HL.out] at h1
            exact h1.2 (by simp; omega)
          · have i5 : ((x : Int) == 0) = false := beq_false_of_ne hx
            go_wp2
            refine ⟨⟨i + 1, by go_num, by omega, Lib.hid (fun j hj => ?_), Lib.hid trivial⟩, by simp [intOf]; omega⟩
            rcases Nat.lt_or_ge j i with h | h
            · exact HT.out j h
            · have : j = i := by omega
              subst this
              rw [← HL.out]
              exact ⟨by omega, by simp; omega⟩
        · have i3 : (m : Int) > 240 := by omega
          go_wp2
          go_ret
          refine ⟨Says.no (fun h => ?_), rfl⟩
          have h1 := h i hlt
          rw [← HL.out] at h1
          have := h1.1; omega
    · have hik : i = k := by omega
      subst hik
      have i1 : ¬ (i : Int) < (i : Int) := by omega
      go_wp2
      go_ret
      exact ⟨Says.yes HT.out, rfl⟩

end Go.Proofs.YtnfjmngchapdnaaGreatDoor
