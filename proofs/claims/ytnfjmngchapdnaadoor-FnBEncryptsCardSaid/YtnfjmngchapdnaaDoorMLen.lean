import Derived.Test.YtnfjmngchapdnaaDoorMMem
import Derived.WalkSpells
import Derived.Outline
import Derived.Test.YtnfjmngchapdnaaDoorMMontRep
import Derived.Deep.LoopGhost
import Derived.Test.YtnfjmngchapdnaaDoorMNatBytes
import Derived.Test.YtnfjmngchapdnaaDoorMRsaPub
/- math/bits: Len64, Len. -/
namespace Go.Proofs.YtnfjmngchapdnaaDoor
open Go.RowKit

def len8 : ByteArray := ⟨#[0, 1, 2, 2, 3, 3, 3, 3, 4, 4, 4, 4, 4, 4, 4, 4, 5, 5, 5, 5, 5, 5, 5, 5, 5, 5, 5, 5, 5, 5, 5, 5, 6, 6, 6, 6, 6, 6, 6, 6, 6, 6, 6, 6, 6, 6, 6, 6, 6, 6, 6, 6, 6, 6, 6, 6, 6, 6, 6, 6, 6, 6, 6, 6, 7, 7, 7, 7, 7, 7, 7, 7, 7, 7, 7, 7, 7, 7, 7, 7, 7, 7, 7, 7, 7, 7, 7, 7, 7, 7, 7, 7, 7, 7, 7, 7, 7, 7, 7, 7, 7, 7, 7, 7, 7, 7, 7, 7, 7, 7, 7, 7, 7, 7, 7, 7, 7, 7, 7, 7, 7, 7, 7, 7, 7, 7, 7, 7, 8, 8, 8, 8, 8, 8, 8, 8, 8, 8, 8, 8, 8, 8, 8, 8, 8, 8, 8, 8, 8, 8, 8, 8, 8, 8, 8, 8, 8, 8, 8, 8, 8, 8, 8, 8, 8, 8, 8, 8, 8, 8, 8, 8, 8, 8, 8, 8, 8, 8, 8, 8, 8, 8, 8, 8, 8, 8, 8, 8, 8, 8, 8, 8, 8, 8, 8, 8, 8, 8, 8, 8, 8, 8, 8, 8, 8, 8, 8, 8, 8, 8, 8, 8, 8, 8, 8, 8, 8, 8, 8, 8, 8, 8, 8, 8, 8, 8, 8, 8, 8, 8, 8, 8, 8, 8, 8, 8, 8, 8, 8, 8, 8, 8, 8, 8, 8, 8, 8, 8, 8, 8, 8, 8, 8, 8, 8, 8]⟩
set_option maxRecDepth 100000 in
theorem len8_size : len8.size = 256 := by rfl
set_option maxRecDepth 100000 in
theorem len8_get (y : Nat) (h : y < 256) : (len8[y]'(by rw [len8_size]; exact h)).toNat = blen y := by
  have key : ∀ y : Fin 256, (len8[y.1]'(by rw [len8_size]; exact y.2)).toNat = blen y.1 := by decide +kernel
  exact key ⟨y, h⟩
theorem blen_div (x k : Nat) (h : 2 ^ k ≤ x) : blen x = k + blen (x / 2 ^ k) := by
  have h1 := blen_concat (a := x % 2 ^ k) (x := x / 2 ^ k) (m := k) (Nat.mod_lt _ (Nat.pow_pos (by omega))) (by
    have := Nat.div_pos h (Nat.pow_pos (by omega))
    omega)
  rw [Nat.mod_add_div] at h1
  exact h1
theorem ret_len {k t b : Nat} (hk : k ≤ 64) (ht : t ≤ 64) (h : b = k + t) (i : Int) (hi : i = wrap64 ((k : Int) + wrap64 (t : Int))) : Ending.returned (.int .i64 i) = .returned (.int .i64 (b : Int)) := by
  rw [hi, h]
  congr 2
  unfold wrap64
  omega
theorem ret_len0 {b : Nat} (ht : b ≤ 64) (i : Int) (hi : i = wrap64 (wrap64 (b : Int))) : Ending.returned (.int .i64 i) = .returned (.int .i64 (b : Int)) := by
  rw [hi]
  congr 2
  unfold wrap64
  omega
theorem blen_small {y : Nat} (h : y < 256) : blen y ≤ 64 := Nat.le_trans (blen_le_of_lt (k := 8) h) (by omega)

set_option maxRecDepth 100000 in
set_option maxHeartbeats 2000000 in
theorem bits_Len64 (x : Nat) (hx : x < 4294967296) (w : World) :
    Calls Tryd.prog 74 #[.int .u64 (x : Int)] w fun e w' => e = .returned (.int .i64 (blen x)) ∧ w = w' := by
  have h1 : decide ((4294967296 : Int) ≤ (x : Int)) = false := decide_eq_false (by omega)
  by_cases h2 : 65536 ≤ x
  · have h2' : (65536 : Int) ≤ (x : Int) := by omega
    have e1 : blen x = 16 + blen (x / 65536) := blen_div x 16 h2
    by_cases h3 : 256 ≤ x / 65536
    · have h3' : (256 : Int) ≤ (x : Int) / 65536 := by omega
      have e2 : blen (x / 65536) = 8 + blen (x / 65536 / 256) := blen_div _ 8 h3
      have e3 := Lib.hid (show blen x = 24 + blen (x / 65536 / 256) by omega)
      clear e1 e2
      go_enter Tryd.func74, Tryd.ntmps74
      go_wp2
      go_ret
      refine ⟨ret_len (k := 24) (t := blen (x / 65536 / 256)) (by omega) (blen_small (by omega)) e3.out _ ?_, rfl⟩
      rw [← len8_get _ (by omega)]
      rfl
    · have h3' : decide ((256 : Int) ≤ (x : Int) / 65536) = false := decide_eq_false (by omega)
      have e3 := Lib.hid e1
      clear e1
      go_enter Tryd.func74, Tryd.ntmps74
      go_wp2
      go_ret
      refine ⟨ret_len (k := 16) (t := blen (x / 65536)) (by omega) (blen_small (by omega)) e3.out _ ?_, rfl⟩
      rw [← len8_get _ (by omega)]
      rfl
  · have h2' : decide ((65536 : Int) ≤ (x : Int)) = false := decide_eq_false (by omega)
    by_cases h3 : 256 ≤ x
    · have h3' : (256 : Int) ≤ (x : Int) := by omega
      have e3 := Lib.hid (show blen x = 8 + blen (x / 256) from blen_div x 8 h3)
      go_enter Tryd.func74, Tryd.ntmps74
      go_wp2
      go_ret
      refine ⟨ret_len (k := 8) (t := blen (x / 256)) (by omega) (blen_small (by omega)) e3.out _ ?_, rfl⟩
      rw [← len8_get _ (by omega)]
      rfl
    · have h3' : decide ((256 : Int) ≤ (x : Int)) = false := decide_eq_false (by omega)
      go_enter Tryd.func74, Tryd.ntmps74
      go_wp2
      go_ret
      refine ⟨ret_len0 (blen_small (by omega)) _ ?_, rfl⟩
      rw [← len8_get _ (by omega)]
      rfl

set_option maxRecDepth 100000 in
theorem bits_Len (x : Nat) (hx : x < 4294967296) (w : World) :
    Calls Tryd.prog 63 #[.int .u64 (x : Int)] w fun e w' => e = .returned (.int .i64 (blen x)) ∧ w = w' := by
  go_enter Tryd.func63, Tryd.ntmps63
  go_wp2_with fail
  refine (bits_Len64 x hx _).mono ?_
  rintro e w1 ⟨rfl, rfl⟩
  go_wp2
  go_ret
  exact ⟨rfl, rfl⟩

end Go.Proofs.YtnfjmngchapdnaaDoor

/- bigmod: ExpShortVarTime. -/
namespace Go.Proofs.YtnfjmngchapdnaaDoor
open Go.RowKit

theorem exp_sq {x m R t : Nat} (v : Nat) (hv : v = (x ^ t * R) % m) : (v * v) % m = ((x ^ (2 * t) * R) * R) % m := by
  rw [hv, ← Nat.mul_mod]
  congr 1
  rw [Nat.two_mul, Nat.pow_add]
  grind
theorem exp_mul {x m R t : Nat} (v u : Nat) (hv : v = (x ^ t * R) % m) (hu : u = (x * R) % m) : (v * u) % m = ((x ^ (t + 1) * R) * R) % m := by
  rw [hv, hu, ← Nat.mul_mod]
  congr 1
  rw [Nat.pow_succ]
  grind
theorem bit_next (e j : Nat) : e / 2 ^ j = 2 * (e / 2 ^ (j + 1)) + e / 2 ^ j % 2 := by
  rw [Nat.pow_succ, ← Nat.div_div_eq_div_mul]
  omega

set_option maxRecDepth 100000 in
set_option maxHeartbeats 4000000 in
theorem nat_expShort (p lb k v0 q lq c v e pm pn ln pr lr n m m0 : Nat) (w : World) (ho : NatV w p lb k 32 v0) (hx : NatV w q lq n c v) (hm : ModO w pm pn ln pr lr n m m0) (hl : ln ≠ lb) (hl2 : lr ≠ lb) (hv : v < m) (he0 : 0 < e) (he : e < 4294967296) :
    Calls Tryd.prog 49 #[.pointer (some ⟨p, 0, none⟩), .pointer (some ⟨q, 0, none⟩), .int .u64 (e : Int), .pointer (some ⟨pm, 0, none⟩)] w fun e' w' =>
      e' = .returned (.pointer (some ⟨p, 0, none⟩)) ∧ NatV w' p lb n 32 (v ^ e % m) ∧ Keeps [p, lb] w w' := by
  have c1 := hm.b.hdr.c1
  have hn31 := hm.n31
  have hn0 := hm.npos
  have s1 := hm.b.ne_hdr ho
  have s2 := hm.b.ne_row ho
  have s3 := hm.b.nat.ne_p ho hl
  have s4 := hm.b.nat.ne2 ho
  have s5 := hm.rr.ne_p ho hl2
  have s6 := hm.rr.ne2 ho
  have s7 := ho.ne2 hm.b.nat
  have s8 := ho.ne2 hm.rr
  have keepM : ∀ w1 w2, ModO w1 pm pn ln pr lr n m m0 → Keeps [p, lb] w1 w2 → ModO w2 pm pn ln pr lr n m m0 := fun w1 w2 h hk =>
    h.keeps hk (by simp [s1, s2]) (by simp [s3, s4]) (by simp [hl]; exact fun h => s7 h.symm) (by simp [s5, s6]) (by simp [hl2]; exact fun h => s8 h.symm)
  have KM := Lib.hid keepM
  clear keepM s1 s2 s3 s4 s5 s6 s7 s8
  go_enter Tryd.func49, Tryd.ntmps49
  go_wp2_with fail
  refine (newNat_any _).mono ?_
  rintro e1 w1 ⟨r, lx, rfl, hr, hrp, hrl, hk1⟩
  have o1 := hm.old hrp; have o2 := hm.old hrl; have o3 := hx.old hrp; have o4 := hx.old hrl; have o5 := ho.old hrp; have o6 := ho.old hrl
  have hm1 := hm.kept hk1
  have hx1 := hx.kept hk1
  have ho1 := ho.kept hk1
  go_wp2_with fail
  refine (nat_set r lx q lq 0 n 32 c 0 v _ hr hx1 (by omega) (by omega) o3.1 o4.1 o3.2 o4.2).mono ?_
  rintro e2 w2 ⟨rfl, hr2, hk2⟩
  have hm2 := hm1.keeps hk2 (by simp [o1.1, o2.1]) (by simp [o1.2.1, o2.2.1]) (by simp [o1.2.2.1, o2.2.2.1]) (by simp [o1.2.2.2.1, o2.2.2.2.1]) (by simp [o1.2.2.2.2, o2.2.2.2.2])
  have ho2 := ho1.keeps hk2 (by simp [o5.1, o6.1]) (by simp [o5.2, o6.2])
  have hkk2 := hk1.trans hk2 (by intro x hx hlt; simp at hx; omega)
  go_wp2_with fail
  refine (nat_montRep r lx 32 v pm pn ln pr lr n m m0 _ hr2 hm2 o2.2.2.1 (by omega) hv).mono ?_
  rintro e3 w3 ⟨rfl, hr3, hk3⟩
  have hm3 := hm2.keeps hk3 (by simp [o1.1, o2.1]) (by simp [o1.2.1, o2.2.1]) (by simp [o1.2.2.1, o2.2.2.1]) (by simp [o1.2.2.2.1, o2.2.2.2.1]) (by simp [o1.2.2.2.2, o2.2.2.2.2])
  have ho3 := ho2.keeps hk3 (by simp [o5.1, o6.1]) (by simp [o5.2, o6.2])
  have hkk3 := hkk2.trans hk3 (by intro x hx hlt; simp at hx; omega)
  go_wp2_with fail
  refine (nat_set p lb r lx k n 32 32 v0 ((v * BB ^ n) % m) _ ho3 hr3 (by omega) (by omega) (Ne.symm o5.1) (Ne.symm o5.2) (Ne.symm o6.1) (Ne.symm o6.2)).mono ?_
  rintro e4 w4 ⟨rfl, ho4, hk4⟩
  have hm4 := KM.out _ _ hm3 hk4
  have hr4 := hr3.keeps hk4 (by simp [Ne.symm o5.1, Ne.symm o5.2]) (by simp [Ne.symm o6.1, Ne.symm o6.2])
  have hkk4 : Keeps [p, lb] w w4 := (hkk3.mono (by simp)).trans1 hk4
  have HM := Lib.hid hm4; have HO := Lib.hid ho4; have HR := Lib.hid hr4; have HK := Lib.hid hkk4
  have N1 := Ne.symm o5.1; have N2 := Ne.symm o5.2; have N3 := Ne.symm o6.1; have N4 := Ne.symm o6.2
  clear hm1 hm2 hm3 hm4 hx1 ho1 ho2 ho3 ho4 hr hr2 hr3 hr4 hk1 hk2 hk3 hk4 hkk2 hkk3 hkk4 o1 o2 o3 o4 o5 o6
  go_wp2_with fail
  refine (bits_Len e he _).mono ?_
  rintro e5 w5 ⟨rfl, rfl⟩
  have hb0 := blen_pos (n := e) (by omega)
  have hb32 : blen e ≤ 32 := blen_le_of_lt (by omega)
  have hbt : Hid (e / 2 ^ (blen e - 1) = 1) := by
    have h1 := blen_le (n := e) (by omega)
    have h2 := lt_blen e
    rw [show blen e = (blen e - 1) + 1 by omega, Nat.pow_succ] at h2
    exact Lib.hid (Nat.div_eq_of_lt_le (by omega) (by omega))
  obtain ⟨bl, hbl⟩ : ∃ bl, bl = blen e := ⟨_, rfl⟩
  rw [← hbl] at hb0 hb32 hbt
  rw [← hbl]
  clear hbl
  go_wp2_with fail
  go_loopg [10] (bl - 1) (fun gn iv wx => ∃ (j : Nat) (I : Int), gn = j ∧ iv = .int .i64 I ∧ Hid (I = 64 - (j : Int)) ∧ j ≤ bl - 1 ∧ Hid (NatV wx p lb n 32 ((v ^ (e / 2 ^ j) * BB ^ n) % m)) ∧ Hid (NatV wx r lx n 32 ((v * BB ^ n) % m)) ∧ Hid (ModO wx pm pn ln pr lr n m m0) ∧ Hid (Keeps [p, lb] w wx))
  case atStart =>
    refine ⟨bl - 1, _, rfl, rfl, Lib.hid (by omega), Nat.le_refl _, Lib.hid ?_, HR, HM, HK⟩
    rw [hbt.out, Nat.pow_one]
    exact HO.out
  case round =>
    obtain ⟨j, I, hgj, rfl, hI, hj, hO, hR, hM, hK⟩ := hrel
    cases j with
    | zero =>
      have i1 : ¬ I < 64 := by have := hI.out; omega
      go_wp2_with fail
      have ho := hO.out
      rw [Nat.pow_zero, Nat.div_one] at ho
      refine (nat_montRed p lb 32 ((v ^ e * BB ^ n) % m) pm pn ln pr lr n m m0 _ ho hM.out hl (by omega) (Nat.mod_lt _ (by have := hm.gt; omega))).mono ?_
      rintro e6 w6 ⟨rfl, v', hv1, hv2, ho6, hk6⟩
      have hv' := mont_unique hm.odd hv1 hv2
      subst hv'
      have HO6 := Lib.hid ho6; have HK6 := Lib.hid (hK.out.trans1 hk6)
      clear ho ho6 hk6 hv1 hv2
      go_wp2
      go_ret
      exact ⟨rfl, HO6.out, HK6.out⟩
    | succ j =>
      have i1 : I < 64 := by have := hI.out; omega
      have i2 : (64 : Int) - I - 1 = (j : Int) := by have := hI.out; omega
      have i3 : 0 ≤ I := by have := hI.out; omega
      have hj32 : j < 32 := by omega
      go_wp2_with fail
      refine (mont_any p lb n 32 ((v ^ (e / 2 ^ (j + 1)) * BB ^ n) % m) p lb 32 ((v ^ (e / 2 ^ (j + 1)) * BB ^ n) % m) p lb 32 ((v ^ (e / 2 ^ (j + 1)) * BB ^ n) % m) pm pn ln n m m0 true _ _ hO.out hO.out hO.out hM.out.b hM.out.inv hl (by omega) (by omega) (Nat.mod_lt _ (by have := hm.gt; omega)) hn31).mono ?_
      rintro e6 w6 ⟨rfl, v', hlt, heq, hx6, hk6⟩
      have hv' : v' = (v ^ (2 * (e / 2 ^ (j + 1))) * BB ^ n) % m := by
        refine mont_unique (n := n) hm.odd hlt ?_
        rw [heq]
        exact exp_sq _ rfl
      have hm6 := KM.out _ _ hM.out hk6
      have hr6 := hR.out.keeps hk6 (by simp [N1, N2]) (by simp [N3, N4])
      have hkk6 := hK.out.trans1 hk6
      have HV := Lib.hid hv'; have HL := Lib.hid hlt; have HX6 := Lib.hid hx6; have HM6 := Lib.hid hm6; have HR6 := Lib.hid hr6; have HK6 := Lib.hid hkk6
      clear hv' hlt heq hx6 hm6 hr6 hkk6 hk6 hO hR hM hK
      have hnx := Lib.hid (bit_next e j)
      obtain ⟨y, hy⟩ : ∃ y, y = e / 2 ^ j := ⟨_, rfl⟩
      have hyl : y < BB := by
        have h1 : e / 2 ^ j ≤ e := Nat.div_le_self _ _
        unfold BB
        omega
      have hand := and_one y hyl
      have hyI : (e : Int) / 2 ^ j = (y : Int) := by rw [hy]; simp
      have HY := Lib.hid hy
      clear hy
      rcases Nat.mod_two_eq_zero_or_one y with h2 | h2
      · rw [h2] at hand
        have hand' : Go.bits .and .u64 (y : Int) 1 = 0 := hand
        have H2 := Lib.hid h2
        clear hand h2
        go_wp2_with fail
        go_roundg j
        case measure => omega
        case rel =>
          refine ⟨j, _, rfl, rfl, Lib.hid (by have := hI.out; omega), by omega, Lib.hid ?_, HR6, HM6, HK6⟩
          rw [hnx.out, ← HY.out, H2.out, Nat.add_zero, ← HV.out]
          exact HX6.out
      · rw [h2] at hand
        have hand' : Go.bits .and .u64 (y : Int) 1 = 1 := hand
        have H2 := Lib.hid h2
        clear hand h2
        go_wp2_with fail
        refine (mont_any p lb n 32 v' p lb 32 v' r lx 32 ((v * BB ^ n) % m) pm pn ln n m m0 true _ _ HX6.out HX6.out HR6.out HM6.out.b HM6.out.inv hl (by omega) (by omega) HL.out hn31).mono ?_
        rintro e7 w7 ⟨rfl, v2, hlt2, heq2, hx7, hk7⟩
        have hv2 : v2 = (v ^ (2 * (e / 2 ^ (j + 1)) + 1) * BB ^ n) % m := by
          refine mont_unique (n := n) hm.odd hlt2 ?_
          rw [heq2]
          exact exp_mul _ _ HV.out rfl
        have hm7 := KM.out _ _ HM6.out hk7
        have hr7 := HR6.out.keeps hk7 (by simp [N1, N2]) (by simp [N3, N4])
        have hkk7 := HK6.out.trans1 hk7
        have HV2 := Lib.hid hv2; have HX7 := Lib.hid hx7; have HM7 := Lib.hid hm7; have HR7 := Lib.hid hr7; have HK7 := Lib.hid hkk7
        clear hv2 hlt2 heq2 hx7 hm7 hr7 hkk7 hk7
        go_wp2_with fail
        go_roundg j
        case measure => omega
        case rel =>
          refine ⟨j, _, rfl, rfl, Lib.hid (by have := hI.out; omega), by omega, Lib.hid ?_, HR7, HM7, HK7⟩
          rw [hnx.out, ← HY.out, H2.out, ← HV2.out]
          exact HX7.out

end Go.Proofs.YtnfjmngchapdnaaDoor

/- rsa: Size, checkPublicKeySize, encrypt, Encrypt. -/
namespace Go.Proofs.YtnfjmngchapdnaaDoor
open Go.RowKit

set_option maxRecDepth 100000 in
set_option maxHeartbeats 1000000 in
theorem pub_Size (pp pm pn ln pr lr n m : Nat) (E : Int) (w : World) (hp : PubV w pp pm E) (hm : ModX w pm pn ln pr lr n m) :
    Calls Tryd.prog 26 #[.pointer (some ⟨pp, 0, none⟩)] w fun e w' => e = .returned (.int .i64 (((blen m + 7) / 8 : Nat) : Int)) ∧ w = w' := by
  have c0 := hp.c0
  obtain ⟨odd, m0, rv, hb⟩ := hm.modB
  have hbl := blen_le_n hb.nat.lt
  have hn31 := hm.n31
  go_enter Tryd.func26, Tryd.ntmps26
  go_wp2_with fail
  refine (mod_BitLen pm pn ln n m m0 odd rv _ hb).mono ?_
  rintro e w1 ⟨rfl, rfl⟩
  go_wp2
  go_ret
  refine ⟨?_, rfl⟩
  go_num

set_option maxRecDepth 100000 in
set_option maxHeartbeats 1000000 in
theorem checkPublicKeySize_any (pp pm pn ln pr lr n m : Nat) (E : Int) (w : World) (hp : PubV w pp pm E) (hm : ModX w pm pn ln pr lr n m) :
    Calls Tryd.prog 25 #[.pointer (some ⟨pp, 0, none⟩)] w fun e w' =>
      (∃ v, e = .returned v ∧ ((1024 ≤ blen m ∧ v = .nilIface) ∨ (blen m < 1024 ∧ IsErr v))) ∧ Keeps [] w w' := by
  have c0 := hp.c0
  obtain ⟨odd, m0, rv, hb⟩ := hm.modB
  go_enter Tryd.func25, Tryd.ntmps25
  go_wp2_with fail
  refine (mod_BitLen pm pn ln n m m0 odd rv _ hb).mono ?_
  rintro e w1 ⟨rfl, rfl⟩
  by_cases hlt : blen m < 1024
  · have i1 : (blen m : Int) < 1024 := by omega
    go_wp2_with fail
    refine (errors_New _ _).mono ?_
    rintro e w3 ⟨⟨b, rfl, _, _⟩, hk⟩
    go_wp2
    go_ret
    exact ⟨⟨_, rfl, .inr ⟨hlt, _, _, rfl⟩⟩, hk⟩
  · have i1 : ¬ (blen m : Int) < 1024 := by omega
    go_wp2
    go_ret
    exact ⟨⟨_, rfl, .inl ⟨by omega, rfl⟩⟩, Keeps.refl _ _⟩

theorem nat_SetBytes_fit (p lb k v pm pn ln n m m0 : Nat) (odd : Bool) (rv : Value) (a : Option Addr) (mb cb : Nat) (L : List Nat) (w : World) (hx : NatV w p lb k 32 v) (hm : ModB w pm pn ln n m odd m0 rv) (hs : SlB w a mb cb L) (hl : ln ≠ lb) (hn : n ≤ 31) (hmb : mb ≤ 8000) (hm1 : 1 < m) (hfit : mb ≤ 8 * n ∧ bval L < m) :
    Calls Tryd.prog 48 #[.pointer (some ⟨p, 0, none⟩), .slice a mb cb, .pointer (some ⟨pm, 0, none⟩)] w fun e w' =>
      e = .returned (.tuple #[.pointer (some ⟨p, 0, none⟩), .nilIface]) ∧ NatV w' p lb n 32 (bval L) ∧ Keeps [p, lb] w w' :=
  (nat_SetBytes p lb k v pm pn ln n m m0 odd rv a mb cb L w hx hm hs hl hn hmb hm1).mono (by
    rintro e w' ⟨⟨_, _, h1, h2⟩ | ⟨h, _⟩, hk⟩
    · exact ⟨h1, h2, hk⟩
    · exact absurd hfit h)
theorem Keeps.fresh2 {w w1 w2 : World} {p l : Nat} (h : Keeps [] w w1) (hp : w.heap.size ≤ p) (hl : w.heap.size ≤ l) (h2 : Keeps [p, l] w1 w2) : Keeps [] w w2 :=
  h.trans h2 (by intro x hx hlt; simp at hx; omega)
theorem NatV.ne_new {w : World} {p lb n c v x : Nat} (h : NatV w p lb n c v) (hx : w.heap.size ≤ x) : lb ≠ x := (h.old hx).2

/-- Bytes of one's own, and no error, that were returned. -/
def RetBytesN (e : Ending) (w' : World) (S v : Nat) : Prop :=
  ∃ (B : Nat) (O : List Nat), e = .returned (.tuple #[.slice (some ⟨B, 0, none⟩) S S, .nilIface]) ∧ O.length = S ∧ LtB O ∧ bval O = v ∧ SlB w' (some ⟨B, 0, none⟩) S S O

set_option maxRecDepth 100000 in
set_option maxHeartbeats 4000000 in
theorem encrypt_ok (pp pm pn ln pr lr n m ke : Nat) (a : Option Addr) (mb cb : Nat) (L : List Nat) (w : World) (hp : PubV w pp pm (ke : Int)) (hm : ModX w pm pn ln pr lr n m) (ho : m % 2 = 1) (hke : 0 < ke ∧ ke < 2147483648)
    (hs : SlB w a mb cb L) (hfit : mb ≤ 8 * n ∧ bval L < m) (hmb : mb ≤ 8000) :
    Calls Tryd.prog 39 #[.pointer (some ⟨pp, 0, none⟩), .slice a mb cb] w fun e w' => RetBytesN e w' ((blen m + 7) / 8) (bval L ^ ke % m) ∧ Keeps [] w w' := by
  have hn31 := hm.n31
  have hgt := hm.gt
  obtain ⟨m0, hO⟩ := hm.toO ho
  have c0 := hp.c0
  have HP := Lib.hid hp
  go_enter Tryd.func39, Tryd.ntmps39
  go_wp2_with fail
  refine wp_region_txt [2,0,0,0,0,0,2,0,0,0,0,0] (fun w' => w'.cell? ⟨pp, 0, none⟩ = some (.pointer (some ⟨pm, 0, none⟩))) (by kernel_rfl) (by kernel_rfl) c0 ?_
  simp only [withMarks]
  repeat (first
    | ((with_reducible refine txt_v (v := ?_) ?_ ?_); (any_goals ((with_reducible refine Yl.mk ?_ ?_); rfl; intro w hSw; (go_simp <;> (try go_bits) <;> (repeat (first | rw [if_pos (by omega)] | rw [if_neg (by omega)])) <;> with_reducible rfl))); try simp only [Act.put, List.setIfInBounds_toArray, List.set_cons_zero, List.set_cons_succ])
    | ((with_reducible refine txt_u ?_ ?_); rfl; try simp only [Act.put, List.setIfInBounds_toArray, List.set_cons_zero, List.set_cons_succ])
    | ((with_reducible refine txt_l (v := ?_) ?_ ?_); (any_goals ((with_reducible refine Reads.mk ?_ ?_); rfl; (go_simp <;> (try go_bits) <;> (repeat (first | rw [if_pos (by omega)] | rw [if_neg (by omega)])) <;> with_reducible rfl))); try simp only [Act.put, List.setIfInBounds_toArray, List.set_cons_zero, List.set_cons_succ])
    | ((with_reducible refine txt_e ?_ ?_); rfl; intro K hK; go_simp; (first | (refine hK _ _ (by first | exact (HP.out.kept hk2).c0 | exact (HP.out.kept ((Keeps.refl [] w).drew.trans1 hk1)).c0 | exact c0) ?_) | ((first | (go_at_call 48; refine (nat_SetBytes_fit q lq 0 0 pm pn ln n m m0 true _ a mb cb L _ hN (hO.kept ((Keeps.refl [] w).drew.trans1 hk1)).b (hs.kept ((Keeps.refl [] w).drew.trans1 hk1)) (hO.b.nat.ne_new hlq) hn31 hmb hgt hfit).mono ?_; rintro e w2 ⟨rfl, hN2, hk2'⟩; have hk2 := ((Keeps.refl [] w).drew.trans1 hk1).fresh2 hq hlq hk2') | (go_at_call 41; refine (newNat_any _).mono ?_; rintro e w1 ⟨q, lq, rfl, hN, hq, hlq, hk1⟩)); dsimp only; refine hK _ _ (by first | exact (HP.out.kept hk2).c0 | exact (HP.out.kept ((Keeps.refl [] w).drew.trans1 hk1)).c0 | exact c0) ?_)); clear hK K; try simp only [Act.put, List.setIfInBounds_toArray, List.set_cons_zero, List.set_cons_succ]))
  refine txt_nil ?_
  have hP2 := hp.kept hk2
  have hO2 := hO.kept hk2
  have d0 := hP2.c0
  have d1 := hP2.c1
  have HP2 := Lib.hid hP2; have HO2 := Lib.hid hO2; have HN2 := Lib.hid hN2; have HK2 := Lib.hid hk2
  clear hP2 hO2 hN2 hk2 hk2' hN hk1
  go_wp2_with fail
  refine wp_region_txt [2,0,0,0,0,0,0,0,0,0,0,2,0,0,0,0,2,0,0] (fun w' => w'.cell? ⟨pp, 0, none⟩ = some (.pointer (some ⟨pm, 0, none⟩)) ∧ w'.cell? ⟨pp, 1, none⟩ = some (.int .i64 (ke : Int))) (by kernel_rfl) (by kernel_rfl) ⟨d0, d1⟩ ?_
  simp only [withMarks]
  repeat (first
    | ((with_reducible refine txt_v (v := ?_) ?_ ?_); (any_goals ((with_reducible refine Yl.mk ?_ ?_); rfl; intro w hSw; (go_simp <;> (try go_bits) <;> (repeat (first | rw [if_pos (by omega)] | rw [if_neg (by omega)])) <;> with_reducible rfl))); try simp only [Act.put, List.setIfInBounds_toArray, List.set_cons_zero, List.set_cons_succ])
    | ((with_reducible refine txt_u ?_ ?_); rfl; try simp only [Act.put, List.setIfInBounds_toArray, List.set_cons_zero, List.set_cons_succ])
    | ((with_reducible refine txt_l (v := ?_) ?_ ?_); (any_goals ((with_reducible refine Reads.mk ?_ ?_); rfl; (go_simp <;> (try go_bits) <;> (repeat (first | rw [if_pos (by omega)] | rw [if_neg (by omega)])) <;> with_reducible rfl))); try simp only [Act.put, List.setIfInBounds_toArray, List.set_cons_zero, List.set_cons_succ])
    | ((with_reducible refine txt_e ?_ ?_); rfl; intro K hK; go_simp; (first | (refine hK _ _ (by first | exact ⟨(HP2.out.kept hk5).c0, (HP2.out.kept hk5).c1⟩ | exact ⟨(HP2.out.kept hk4).c0, (HP2.out.kept hk4).c1⟩ | exact ⟨(HP2.out.kept ((Keeps.refl [] w2).drew.trans1 hk3)).c0, (HP2.out.kept ((Keeps.refl [] w2).drew.trans1 hk3)).c1⟩ | exact ⟨d0, d1⟩) ?_) | ((first | (go_at_call 50; refine (nat_Bytes p3 l3 32 (bval L ^ ke % m) pm pn ln n m m0 true _ _ hN4 (HO2.out.kept hk4).b hn31 (Nat.mod_lt _ (by omega))).mono ?_; rintro e w5 ⟨⟨O, rfl, hO1, hO2', hO3, hO4⟩, hk5'⟩; have hk5 := hk4.trans1 hk5') | (go_at_call 49; refine (nat_expShort p3 l3 0 0 q lq 32 (bval L) ke pm pn ln pr lr n m m0 _ hN3 (HN2.out.kept ((Keeps.refl [] w2).drew.trans1 hk3)) (HO2.out.kept ((Keeps.refl [] w2).drew.trans1 hk3)) (HO2.out.b.nat.ne_new hl3) (HO2.out.rr.ne_new hl3) hfit.2 hke.1 (by omega)).mono ?_; rintro e w4 ⟨rfl, hN4, hk4'⟩; have hk4 := ((Keeps.refl [] w2).drew.trans1 hk3).fresh2 hp3 hl3 hk4') | (go_at_call 41; refine (newNat_any _).mono ?_; rintro e w3 ⟨p3, l3, rfl, hN3, hp3, hl3, hk3⟩)); dsimp only; refine hK _ _ (by first | exact ⟨(HP2.out.kept hk5).c0, (HP2.out.kept hk5).c1⟩ | exact ⟨(HP2.out.kept hk4).c0, (HP2.out.kept hk4).c1⟩ | exact ⟨(HP2.out.kept ((Keeps.refl [] w2).drew.trans1 hk3)).c0, (HP2.out.kept ((Keeps.refl [] w2).drew.trans1 hk3)).c1⟩ | exact ⟨d0, d1⟩) ?_)); clear hK K; try simp only [Act.put, List.setIfInBounds_toArray, List.set_cons_zero, List.set_cons_succ]))
  refine txt_nil ?_
  have HK5 := Lib.hid (HK2.out.trans1 hk5)
  have HSl : Hid (SlB w5 (some ⟨w4.heap.size, 0, none⟩) ((blen m + 7) / 8) ((blen m + 7) / 8) O) := by
    obtain ⟨a', c', h1, h2, _⟩ := SlB.of_own hO4 hO2'
    have h3 := Value.slice.inj h1
    rw [← h3.1, ← h3.2.2] at h2
    exact Lib.hid h2
  clear hk5 hk5' hk4 hk4' hk3 hN3 hN4 hO4 d0 d1 c0
  go_wp2_with fail
  go_ret2
  exact ⟨⟨_, O, rfl, hO1, hO2', hO3, HSl.out⟩, HK5.out⟩

set_option maxRecDepth 100000 in
set_option maxHeartbeats 1000000 in
theorem rsaEncrypt_ok (pp pm pn ln pr lr n m ke : Nat) (a : Option Addr) (mb cb : Nat) (L : List Nat) (w : World) (hp : PubV w pp pm (ke : Int)) (hm : ModX w pm pn ln pr lr n m) (ho : PubOk m (ke : Int))
    (hs : SlB w a mb cb L) (hfit : mb ≤ 8 * n ∧ bval L < m) (hmb : mb ≤ 8000) :
    Calls Tryd.prog 28 #[.pointer (some ⟨pp, 0, none⟩), .slice a mb cb] w fun e w' => RetBytesN e w' ((blen m + 7) / 8) (bval L ^ ke % m) ∧ Keeps [] w w' := by
  have hke : 2 < (ke : Int) ∧ (ke : Int) < 2147483648 := ⟨ho.2.1, ho.2.2.1⟩
  go_enter Tryd.func28, Tryd.ntmps28
  go_wp2_with fail
  refine (checkPublicKey_any pp pm pn ln pr lr n m (ke : Int) _ hp hm (by omega)).mono ?_
  rintro e w1 ⟨⟨b, v, rfl, ⟨_, rfl⟩ | ⟨hno, _⟩⟩, hk1⟩
  · go_wp2_with fail
    refine (encrypt_ok pp pm pn ln pr lr n m ke a mb cb L _ (hp.kept hk1) (hm.kept hk1) ho.1 (by omega) (hs.kept hk1) hfit hmb).mono ?_
    rintro e w2 ⟨⟨B, O, rfl, h1, h2, h3, h4⟩, hk2⟩
    have HS := Lib.hid h4
    clear h4
    go_wp2_with fail
    go_ret2
    exact ⟨⟨B, O, rfl, h1, h2, h3, HS.out⟩, hk1.trans1 hk2⟩
  · exact absurd ho hno

end Go.Proofs.YtnfjmngchapdnaaDoor
