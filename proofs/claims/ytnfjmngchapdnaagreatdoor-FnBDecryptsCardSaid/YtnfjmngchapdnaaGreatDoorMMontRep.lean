import Derived.Test.YtnfjmngchapdnaaGreatDoorMNewMod
import Derived.Test.YtnfjmngchapdnaaGreatDoorMMul
/- bigmod: montgomeryRepresentation, montgomeryReduction, SetBytes. -/
namespace Go.Proofs.YtnfjmngchapdnaaGreatDoor
open Go.RowKit

/-- An odd modulus as newModulus makes it. -/
structure ModO (w : World) (pm pn ln pr lr n m m0 : Nat) : Prop where
  odd : m % 2 = 1
  b : ModB w pm pn ln n m true m0 (.pointer (some ⟨pr, 0, none⟩))
  inv : (m0 * m + 1) % BB = 0
  rr : NatV w pr lr n 32 ((BB ^ n * BB ^ n) % m)
  n31 : n ≤ 31
  gt : 1 < m
theorem ModX.toO {w : World} {pm pn ln pr lr n m : Nat} (h : ModX w pm pn ln pr lr n m) (ho : m % 2 = 1) : ∃ m0, ModO w pm pn ln pr lr n m m0 := by
  rcases h.bod with ⟨_, m0, h1, h2, h3⟩ | ⟨h0, _⟩
  · exact ⟨m0, ho, h1, h2, h3, h.n31, h.gt⟩
  · omega
theorem ModO.keeps {S : List Nat} {w w' : World} {pm pn ln pr lr n m m0 : Nat} (h : ModO w pm pn ln pr lr n m m0) (hk : Keeps S w w') (h1 : pm ∉ S) (h2 : pn ∉ S) (h3 : ln ∉ S) (h4 : pr ∉ S) (h5 : lr ∉ S) : ModO w' pm pn ln pr lr n m m0 :=
  ⟨h.odd, h.b.keeps hk h1 h2 h3, h.inv, h.rr.keeps hk h4 h5, h.n31, h.gt⟩
theorem ModO.kept {w w' : World} {pm pn ln pr lr n m m0 : Nat} (h : ModO w pm pn ln pr lr n m m0) (hk : Keeps [] w w') : ModO w' pm pn ln pr lr n m m0 := h.keeps hk (by simp) (by simp) (by simp) (by simp) (by simp)
theorem ModO.old {w : World} {pm pn ln pr lr n m m0 x : Nat} (h : ModO w pm pn ln pr lr n m m0) (hx : w.heap.size ≤ x) : pm ≠ x ∧ pn ≠ x ∧ ln ≠ x ∧ pr ≠ x ∧ lr ≠ x := by
  have h1 := h.b.old hx
  have h2 := h.rr.old hx
  exact ⟨h1.1, h1.2.1, h1.2.2, h2.1, h2.2⟩
theorem ModO.npos {w : World} {pm pn ln pr lr n m m0 : Nat} (h : ModO w pm pn ln pr lr n m m0) : 0 < n := h.b.npos (by have := h.gt; omega)
theorem mont_unique {m n v' t : Nat} (hodd : m % 2 = 1) (hlt : v' < m) (h : (v' * BB ^ n) % m = (t * BB ^ n) % m) : v' = t % m := by
  rw [← Nat.mod_eq_of_lt hlt]
  apply mod_cancel (coprime_pow hodd (64 * n))
  rw [← BB_pow]; exact h

set_option maxRecDepth 100000 in
set_option maxHeartbeats 1000000 in
theorem nat_montRep_gen (p lb c v pm pn ln pr lr n m m0 : Nat) (w : World) (hx : NatV w p lb n c v) (hm : ModO w pm pn ln pr lr n m m0) (hl : ln ≠ lb) (hc : c ≤ 1000) :
    Calls Tryz.prog 93 #[.pointer (some ⟨p, 0, none⟩), .pointer (some ⟨pm, 0, none⟩)] w fun e w' =>
      e = .returned (.pointer (some ⟨p, 0, none⟩)) ∧ NatV w' p lb n c ((v * BB ^ n) % m) ∧ Keeps [p, lb] w w' := by
  have c3 := hm.b.hdr.c3
  have hnc := hx.le
  have hn31 := hm.n31
  go_enter Tryz.func93, Tryz.ntmps93
  go_wp2_with fail
  refine (mont_gen p lb n c v p lb c v pr lr 32 ((BB ^ n * BB ^ n) % m) pm pn ln n m m0 true _ _ hx hx hm.rr hm.b hm.inv hl hnc hc ⟨by rw [Nat.mul_comm]; exact Nat.mul_le_mul (Nat.le_of_lt (Nat.mod_lt _ (by have := hm.gt; omega))) (Nat.le_of_lt hx.lt), by have := hm.gt; omega⟩ hn31).mono ?_
  rintro e w1 ⟨rfl, v', hlt, heq, hx1, hk1⟩
  have hv' : v' = (v * BB ^ n) % m := by
    refine mont_unique (n := n) hm.odd hlt ?_
    rw [heq, Nat.mul_mod_mod, Nat.mul_assoc]
  subst hv'
  clear heq hlt c3
  go_wp2
  go_ret
  exact ⟨rfl, hx1, hk1⟩

theorem nat_montRep (p lb c v pm pn ln pr lr n m m0 : Nat) (w : World) (hx : NatV w p lb n c v) (hm : ModO w pm pn ln pr lr n m m0) (hl : ln ≠ lb) (hc : c ≤ 1000) (_ : v < m) :
    Calls Tryz.prog 93 #[.pointer (some ⟨p, 0, none⟩), .pointer (some ⟨pm, 0, none⟩)] w fun e w' =>
      e = .returned (.pointer (some ⟨p, 0, none⟩)) ∧ NatV w' p lb n c ((v * BB ^ n) % m) ∧ Keeps [p, lb] w w' :=
  nat_montRep_gen p lb c v pm pn ln pr lr n m m0 w hx hm hl hc

set_option maxRecDepth 100000 in
set_option maxHeartbeats 1000000 in
theorem nat_montRed (p lb c v pm pn ln pr lr n m m0 : Nat) (w : World) (hx : NatV w p lb n c v) (hm : ModO w pm pn ln pr lr n m m0) (hl : ln ≠ lb) (hc : c ≤ 1000) (hv : v < m) :
    Calls Tryz.prog 97 #[.pointer (some ⟨p, 0, none⟩), .pointer (some ⟨pm, 0, none⟩)] w fun e w' =>
      e = .returned (.pointer (some ⟨p, 0, none⟩)) ∧ ∃ v', v' < m ∧ (v' * BB ^ n) % m = v ∧ NatV w' p lb n c v' ∧ Keeps [p, lb] w w' := by
  have hnc := hx.le
  have hn31 := hm.n31
  have hn0 := hm.npos
  go_enter Tryz.func97, Tryz.ntmps97
  go_wp2_with fail
  refine (newNat_any _).mono ?_
  rintro e w1 ⟨q, lq, rfl, hq, hqp, hql, hk1⟩
  have o1 := hm.old hqp; have o2 := hm.old hql; have o3 := hx.old hqp; have o4 := hx.old hql
  have hm1 := hm.kept hk1
  have hx1 := hx.kept hk1
  go_wp2_with fail
  refine (nat_ExpandFor q lq 0 0 pm pn ln n m m0 true _ _ hq hm1.b (by omega) (by omega)).mono ?_
  rintro e w2 ⟨rfl, hq2, hk2⟩
  have hm2 := hm1.keeps hk2 (by simp [o1.1, o2.1]) (by simp [o1.2.1, o2.2.1]) (by simp [o1.2.2.1, o2.2.2.1]) (by simp [o1.2.2.2.1, o2.2.2.2.1]) (by simp [o1.2.2.2.2, o2.2.2.2.2])
  have hx2 := hx1.keeps hk2 (by simp [o3.1, o4.1]) (by simp [o3.2, o4.2])
  have hkk := hk1.trans hk2 (by intro x hx hlt; simp at hx; omega)
  have ch := hq2.hdr.cell
  obtain ⟨x0, cx, _⟩ := hq2.cell0 hn0
  have fx := hq2.free0 0
  have hq3 := hq2.set0 hn0 1 (by decide)
  have hk3 : Keeps [lq] w2 (w2.setCell ⟨lq, 0, none⟩ (.int .u64 ((1 : Nat) : Int))) := (Keeps.refl _ _).setCell (by simp) _
  have hm3 := hm2.keeps hk3 (by simp [o2.1]) (by simp [o2.2.1]) (by simp [o2.2.2.1]) (by simp [o2.2.2.2.1]) (by simp [o2.2.2.2.2])
  have hx3 := hx2.keeps hk3 (by simp [o4.1]) (by simp [o4.2])
  have hkk3 := hkk.trans hk3 (by intro x hx hlt; simp at hx; omega)
  have i0 : (0 : Int) < (n : Int) := by omega
  have HM := Lib.hid hm3; have HX := Lib.hid hx3; have HQ := Lib.hid hq3; have HK := Lib.hid hkk3
  clear hm1 hm2 hm3 hx1 hx2 hx3 hq hq2 hq3 hk1 hk2 hk3 hkk hkk3
  go_wp2_with fail
  refine (mont_any p lb n c v p lb c v q lq 32 1 pm pn ln n m m0 true _ _ HX.out HX.out HQ.out HM.out.b HM.out.inv hl hnc hc hv hn31).mono ?_
  rintro e w3 ⟨rfl, v', hlt, heq, hx4, hk4⟩
  rw [Nat.mul_one, Nat.mod_eq_of_lt hv] at heq
  have hkf : Keeps [p, lb] w w3 := (HK.out.mono (by simp)).trans1 hk4
  have HE := Lib.hid heq
  clear heq ch cx fx
  go_wp2
  go_ret
  exact ⟨rfl, v', hlt, HE.out, hx4, hkf⟩

theorem SlB.split {w : World} {a : Option Addr} {n c : Nat} {L : List Nat} (h : SlB w a n c L) : (L = [] ∧ n = 0) ∨ (L ≠ [] ∧ ∃ b o, a = some ⟨b, o, none⟩ ∧ b < w.heap.size ∧ BAt w b o L) := by
  rcases List.eq_nil_or_concat L with hL | ⟨_, _, hL⟩
  · exact .inl ⟨hL, by rw [← h.1, hL]; rfl⟩
  · have hne : L ≠ [] := by rw [hL]; simp
    exact .inr ⟨hne, h.2.2.2 hne⟩

set_option maxRecDepth 100000 in
set_option maxHeartbeats 2000000 in
theorem nat_SetBytes (p lb k v pm pn ln n m m0 : Nat) (odd : Bool) (rv : Value) (a : Option Addr) (mb cb : Nat) (L : List Nat) (w : World) (hx : NatV w p lb k 32 v) (hm : ModB w pm pn ln n m odd m0 rv) (hs : SlB w a mb cb L) (hl : ln ≠ lb) (hn : n ≤ 31) (hmb : mb ≤ 8000) (hm1 : 1 < m) :
    Calls Tryz.prog 52 #[.pointer (some ⟨p, 0, none⟩), .slice a mb cb, .pointer (some ⟨pm, 0, none⟩)] w fun e w' =>
      ((mb ≤ 8 * n ∧ bval L < m ∧ e = .returned (.tuple #[.pointer (some ⟨p, 0, none⟩), .nilIface]) ∧ NatV w' p lb n 32 (bval L)) ∨
        (¬ (mb ≤ 8 * n ∧ bval L < m) ∧ ∃ t x, e = .returned (.tuple #[.pointer none, .iface t x]))) ∧ Keeps [p, lb] w w' := by
  have d1 := hm.ne_hdr hx
  have d2 := hm.ne_row hx
  have d3 := hm.nat.ne_p hx hl
  have d4 := hm.nat.ne2 hx
  have d5 := hx.ne2 hm.nat
  have hd := hm.hdr
  go_enter Tryz.func52, Tryz.ntmps52
  go_wp2_with fail
  refine (nat_resetFor p lb k 32 v pm pn ln n m m0 odd rv _ hx hm (by omega) (by omega)).mono ?_
  rintro e w1 ⟨rfl, hx1, hk1⟩
  have hm' := hm.keeps hk1 (by simp [d1, d2]) (by simp [d3, d4]) (by simp [hl]; exact fun h => d5 h.symm)
  have key : ∀ w2, Keeps [lb] w1 w2 → NatV w2 p lb n 32 (bval L) → ModB w2 pm pn ln n m odd m0 rv ∧ Keeps [p, lb] w w2 := fun w2 hk2 _ =>
    ⟨hm'.keeps hk2 (by simp [d2]) (by simp [d4]) (by simp [hl]), hk1.trans hk2 (by simp)⟩
  have KEY := Lib.hid key
  clear key
  go_wp2_with fail
  rcases hs.split with ⟨hL, hm0⟩ | ⟨hne, b, o, rfl, hb, hB⟩
  · subst hm0
    refine (nat_setBytes_nil p lb n 32 cb 0 a _ hx1 (by omega)).mono ?_
    rintro e w2 ⟨rfl, rfl⟩
    have hbv : bval L = 0 := by rw [hL]; rfl
    have HBV := Lib.hid hbv
    clear hbv hL
    have c0 := hm'.hdr.c0
    go_wp2_with fail
    refine (nat_cmpGeq p lb pn ln n 32 32 0 m _ hx1 hm'.nat (by omega)).mono ?_
    rintro e w3 ⟨r, rfl, hr, hk3⟩
    have hr0 := hr.no (by omega)
    subst hr0
    clear hr
    have hkf := hk1.trans hk3 (by simp)
    have hxf := hx1.kept hk3
    go_wp2
    go_ret2
    exact ⟨.inl ⟨by omega, by rw [HBV.out]; omega, rfl, by rw [HBV.out]; exact hxf⟩, hkf⟩
  · obtain ⟨s1, s2, s3, _⟩ := hs
    have hbp : b ≠ p := hB.ne_hdr hne hx.hdr
    have hbl : b ≠ lb := by obtain ⟨M, hM⟩ := hx.row'; exact hB.ne_row hne hM
    have hB1 := hB.keeps hb hk1 (by simp [hbp, hbl])
    have hb1 : b < w1.heap.size := Nat.lt_of_lt_of_le hb hk1.size
    by_cases hfit : mb ≤ 8 * n
    · refine (nat_setBytes_ok p lb n 32 b o mb cb L _ hx1 hB1 hb1 s3 s1 s2 (by omega) hfit hne).mono ?_
      rintro e w2 ⟨rfl, hx2, hk2⟩
      obtain ⟨hm2, hkk⟩ := KEY.out w2 hk2 hx2
      have c0 := hm2.hdr.c0
      clear hB hB1 hne
      go_wp2_with fail
      refine (nat_cmpGeq p lb pn ln n 32 32 (bval L) m _ hx2 hm2.nat (by omega)).mono ?_
      rintro e w3 ⟨r, rfl, hr, hk3⟩
      have hkf := hkk.trans hk3 (by simp)
      have hxf := hx2.kept hk3
      rcases hr.case with ⟨rfl, hlt⟩ | ⟨rfl, hlt⟩
      · clear hr
        go_wp2
        go_ret2
        exact ⟨.inl ⟨hfit, by omega, rfl, hxf⟩, hkf⟩
      · clear hr
        go_wp2_with fail
        refine (errors_New _ _).mono ?_
        rintro e w4 ⟨⟨b4, rfl, _, _⟩, hk4⟩
        go_wp2
        go_ret2
        exact ⟨.inr ⟨by omega, _, _, rfl⟩, hkf.trans hk4 (by simp)⟩
    · refine (nat_setBytes_err p lb n 32 b o mb cb L _ hx1 hB1 hb1 s3 s1 s2 (by omega) (by omega) (by omega) hne).mono ?_
      rintro e w2 ⟨⟨v2, rfl, t, x, rfl⟩, hk2⟩
      have hkf := hk1.trans hk2 (by simp)
      clear hB hB1 hne
      go_wp2
      go_ret2
      exact ⟨.inr ⟨by omega, _, _, rfl⟩, hkf⟩

end Go.Proofs.YtnfjmngchapdnaaGreatDoor

/- bigmod: Mul for an odd modulus; for any. -/
namespace Go.Proofs.YtnfjmngchapdnaaGreatDoor
open Go.RowKit

set_option maxRecDepth 100000 in
set_option maxHeartbeats 2000000 in
theorem mul_odd (p lb c v q lc c' u pm pn ln pr lr n m m0 : Nat) (w : World) (hx : NatV w p lb n c v) (hy : NatV w q lc n c' u) (hm : ModO w pm pn ln pr lr n m m0) (hl : ln ≠ lb) (hc : c ≤ 1000) :
    Calls Tryz.prog 74 #[.pointer (some ⟨p, 0, none⟩), .pointer (some ⟨q, 0, none⟩), .pointer (some ⟨pm, 0, none⟩)] w fun e w' =>
      e = .returned (.pointer (some ⟨p, 0, none⟩)) ∧ NatV w' p lb n c ((v * u) % m) ∧ Keeps [p, lb] w w' := by
  have hn31 := hm.n31
  have hnc := hx.le
  have c1 := hm.b.hdr.c1
  go_enter Tryz.func74, Tryz.ntmps74
  go_wp2_with fail
  refine (newNat_any _).mono ?_
  rintro e1 w1 ⟨r, lx, rfl, hr, hrp, hrl, hk1⟩
  have o1 := hm.old hrp; have o2 := hm.old hrl; have o3 := hx.old hrp; have o4 := hx.old hrl; have o5 := hy.old hrp; have o6 := hy.old hrl
  have hm1 := hm.kept hk1
  have hx1 := hx.kept hk1
  have hy1 := hy.kept hk1
  go_wp2_with fail
  refine (nat_set r lx p lb 0 n 32 c 0 v _ hr hx1 (by omega) (by omega) o3.1 o4.1 o3.2 o4.2).mono ?_
  rintro e2 w2 ⟨rfl, hr2, hk2⟩
  have hm2 := hm1.keeps hk2 (by simp [o1.1, o2.1]) (by simp [o1.2.1, o2.2.1]) (by simp [o1.2.2.1, o2.2.2.1]) (by simp [o1.2.2.2.1, o2.2.2.2.1]) (by simp [o1.2.2.2.2, o2.2.2.2.2])
  have hx2 := hx1.keeps hk2 (by simp [o3.1, o4.1]) (by simp [o3.2, o4.2])
  have hy2 := hy1.keeps hk2 (by simp [o5.1, o6.1]) (by simp [o5.2, o6.2])
  have hkk2 := hk1.trans hk2 (by intro x hx hlt; simp at hx; omega)
  go_wp2_with fail
  refine (nat_montRep_gen r lx 32 v pm pn ln pr lr n m m0 _ hr2 hm2 o2.2.2.1 (by omega)).mono ?_
  rintro e3 w3 ⟨rfl, hr3, hk3⟩
  have hm3 := hm2.keeps hk3 (by simp [o1.1, o2.1]) (by simp [o1.2.1, o2.2.1]) (by simp [o1.2.2.1, o2.2.2.1]) (by simp [o1.2.2.2.1, o2.2.2.2.1]) (by simp [o1.2.2.2.2, o2.2.2.2.2])
  have hx3 := hx2.keeps hk3 (by simp [o3.1, o4.1]) (by simp [o3.2, o4.2])
  have hy3 := hy2.keeps hk3 (by simp [o5.1, o6.1]) (by simp [o5.2, o6.2])
  have hkk3 := hkk2.trans hk3 (by intro x hx hlt; simp at hx; omega)
  go_wp2_with fail
  refine (mont_any p lb n c v r lx 32 ((v * BB ^ n) % m) q lc c' u pm pn ln n m m0 true _ _ hx3 hr3 hy3 hm3.b hm3.inv hl hnc hc (Nat.mod_lt _ (by have := hm.gt; omega)) hn31).mono ?_
  rintro e4 w4 ⟨rfl, v', hlt, heq, hx4, hk4⟩
  have hv' : v' = (v * u) % m := by
    refine mont_unique (n := n) hm.odd hlt ?_
    rw [heq, Nat.mod_mul_mod, Nat.mul_right_comm]
  subst hv'
  have HX4 := Lib.hid hx4
  have HK4 := Lib.hid ((hkk3.mono (T := [p, lb]) (by simp)).trans1 hk4)
  clear heq hlt hx4 hk4 c1
  go_wp2
  go_ret
  exact ⟨rfl, HX4.out, HK4.out⟩

theorem nat_Mul (p lb c v q lc c' u pm pn ln pr lr n m : Nat) (w : World) (hx : NatV w p lb n c v) (hy : NatV w q lc n c' u) (hm : ModX w pm pn ln pr lr n m) (hl : ln ≠ lb) (hc : c ≤ 1000) :
    Calls Tryz.prog 74 #[.pointer (some ⟨p, 0, none⟩), .pointer (some ⟨q, 0, none⟩), .pointer (some ⟨pm, 0, none⟩)] w fun e w' =>
      e = .returned (.pointer (some ⟨p, 0, none⟩)) ∧ NatV w' p lb n c ((v * u) % m) ∧ Keeps [p, lb] w w' := by
  rcases Nat.mod_two_eq_zero_or_one m with h | h
  · rcases hm.bod with ⟨h0, _⟩ | ⟨_, _, _, rv, hb⟩
    · omega
    · have hm0 : 0 < m := by have := hm.gt; omega
      have hn31 := hm.n31
      have hn0 := hm.npos
      by_cases h16 : n = 16
      · subst h16
        exact mul_16 p lb c v q lc c' u pm pn ln m 0 rv w hx hy hb hl hc hm.top hm0
      · by_cases h24 : n = 24
        · subst h24
          exact mul_24 p lb c v q lc c' u pm pn ln m 0 rv w hx hy hb hl hc hm.top hm0
        · exact mul_default p lb c v q lc c' u pm pn ln n m 0 rv w hx hy hb hl hc hm.top hm0 h16 h24 hn31 hn0
  · obtain ⟨m0, ho⟩ := hm.toO h
    exact mul_odd p lb c v q lc c' u pm pn ln pr lr n m m0 w hx hy ho hl hc

end Go.Proofs.YtnfjmngchapdnaaGreatDoor

/- bigmod: SetUint, SetOverflowingBytes. -/
namespace Go.Proofs.YtnfjmngchapdnaaGreatDoor
open Go.RowKit

set_option maxRecDepth 100000 in
set_option maxHeartbeats 1000000 in
theorem nat_SetUint (p lb n v y : Nat) (w : World) (hx : NatV w p lb n 32 v) (hy : y < BB) :
    Calls Tryz.prog 76 #[.pointer (some ⟨p, 0, none⟩), .int .u64 (y : Int)] w fun e w' =>
      e = .returned (.pointer (some ⟨p, 0, none⟩)) ∧ NatV w' p lb 1 32 y ∧ Keeps [p, lb] w w' := by
  go_enter Tryz.func76, Tryz.ntmps76
  go_wp2_with fail
  refine (nat_reset p lb n 32 v 1 _ hx (by omega) (by omega)).mono ?_
  rintro e w1 ⟨rfl, hx1, hk1⟩
  have c1 := hx1.hdr.cell
  obtain ⟨x0, hc0, _⟩ := hx1.cell0 (by omega)
  have hf := hx1.free0 0
  have hx2 := hx1.set0 (by omega) y hy
  have hk2 : Keeps [p, lb] w (w1.setCell ⟨lb, 0, none⟩ (.int .u64 (y : Int))) := hk1.setCell (by simp) _
  have HX := Lib.hid hx2; have HK := Lib.hid hk2
  clear hx2 hk2 hx hx1 hk1
  go_wp2
  go_ret
  exact ⟨rfl, HX.out, HK.out⟩

/-- The highest word of a Nat. -/
theorem NatV.top {w : World} {p lb n c v : Nat} (h : NatV w p lb (n + 1) c v) : ∃ x : Nat, w.cell? ⟨lb, n, none⟩ = some (.int .u64 (x : Int)) ∧ x < BB ∧ BB ^ n * x ≤ v ∧ v < BB ^ n * (x + 1) := by
  obtain ⟨_, L, J, h1, h2, h3, h4, h5⟩ := h
  have hL : n < L.length := by omega
  have hc := h1.cell n (by simp; omega)
  rw [List.getElem_append_left hL] at hc
  refine ⟨L[n], hc, h4.get n hL, ?_, ?_⟩
  · have := val_take_succ L n hL
    rw [List.take_of_length_le (by omega), h5] at this
    omega
  · have := val_take_succ L n hL
    rw [List.take_of_length_le (by omega), h5] at this
    have h6 := val_lt (h4.take n)
    rw [List.length_take, Nat.min_eq_left (by omega)] at h6
    rw [Nat.mul_add]
    omega
theorem blen_top {n x v : Nat} (hx : x ≠ 0) (h1 : BB ^ n * x ≤ v) (h2 : v < BB ^ n * (x + 1)) : blen v = 64 * n + blen x := by
  have h3 := lt_blen x
  have h4 := blen_le hx
  have h5 := blen_pos hx
  refine blen_unique ?_ (.inr ?_)
  · rw [Nat.pow_add, ← BB_pow]
    exact Nat.lt_of_lt_of_le h2 (Nat.mul_le_mul_left _ h3)
  · rw [show 64 * n + blen x - 1 = 64 * n + (blen x - 1) by omega, Nat.pow_add, ← BB_pow]
    exact Nat.le_trans (Nat.mul_le_mul_left _ h4) h1
theorem blen_mono {a b : Nat} (h : a ≤ b) : blen a ≤ blen b := blen_le_of_lt (Nat.lt_of_le_of_lt h (lt_blen b))
/-- A number of no more bits than a modulus, less that modulus if it is not below it. -/
theorem two_mod {v m : Nat} (hm : 0 < m) (h : blen v ≤ blen m) : v < 2 * m := by
  have h1 := lt_blen v
  have h2 := blen_le (n := m) (by omega)
  have h3 := blen_pos (n := m) (by omega)
  have h4 : 2 ^ blen v ≤ 2 ^ blen m := Nat.pow_le_pow_right (by omega) h
  have h5 : 2 ^ blen m = 2 * 2 ^ (blen m - 1) := by
    rw [← Nat.pow_succ']; congr 1; omega
  omega

/-- What SetOverflowingBytes leaves: the rest, or an error. -/
def OverR (e : Ending) (w' : World) (p lb n v m : Nat) : Prop :=
  (e = .returned (.tuple #[.pointer (some ⟨p, 0, none⟩), .nilIface]) ∧ NatV w' p lb n 32 (v % m)) ∨ (∃ t x, e = .returned (.tuple #[.pointer none, .iface t x]))

set_option maxRecDepth 100000 in
set_option maxHeartbeats 1000000 in
/-- Behind setBytes. -/
theorem nat_SetOver (p lb k v pm pn ln n m m0 : Nat) (odd : Bool) (rv : Value) (b o mb cb : Nat) (L : List Nat) (w : World) (hx : NatV w p lb k 32 v) (hm : ModB w pm pn ln (n + 1) m odd m0 rv) (hbl : b < w.heap.size) (hB : BAt w b o L) (hLn : L.length = mb) (hcb : mb ≤ cb) (hLt : LtB L) (hne : L ≠ []) (hl : ln ≠ lb) (hn : n + 1 ≤ 31) (hmb : mb ≤ 8000) (hm1 : 0 < m) (htop : BB ^ n ≤ m) :
    Calls Tryz.prog 78 #[.pointer (some ⟨p, 0, none⟩), .slice (some ⟨b, o, none⟩) mb cb, .pointer (some ⟨pm, 0, none⟩)] w fun e w' =>
      OverR e w' p lb (n + 1) (bval L) m ∧ Keeps [p, lb] w w' := by
  have d1 := hm.ne_hdr hx
  have d2 := hm.ne_row hx
  have d3 := hm.nat.ne_p hx hl
  have d4 := hm.nat.ne2 hx
  have d5 := hx.ne2 hm.nat
  have hd := hm.hdr
  have hbp : b ≠ p := hB.ne_hdr hne hx.hdr
  have hblb : b ≠ lb := by obtain ⟨M, hM⟩ := hx.row'; exact hB.ne_row hne hM
  go_enter Tryz.func78, Tryz.ntmps78
  go_wp2_with fail
  refine (nat_resetFor p lb k 32 v pm pn ln (n + 1) m m0 odd rv _ hx hm (by omega) (by omega)).mono ?_
  rintro e w1 ⟨rfl, hx1, hk1⟩
  have hm' := hm.keeps hk1 (by simp [d1, d2]) (by simp [d3, d4]) (by simp [hl]; exact fun h => d5 h.symm)
  have hB1 := hB.keeps hbl hk1 (by simp [hbp, hblb])
  have hb1 : b < w1.heap.size := Nat.lt_of_lt_of_le hbl hk1.size
  go_wp2_with fail
  by_cases hfit : mb ≤ 8 * (n + 1)
  · refine (nat_setBytes_ok p lb (n + 1) 32 b o mb cb L _ hx1 hB1 hb1 hLt hLn hcb (by omega) hfit hne).mono ?_
    rintro e w2 ⟨rfl, hx2, hk2⟩
    have hm2 := hm'.keeps hk2 (by simp [d2]) (by simp [d4]) (by simp [hl])
    have hkk : Keeps [p, lb] w w2 := hk1.trans hk2 (by simp)
    obtain ⟨xt, a1, a2, a3, a4⟩ := hx2.top
    obtain ⟨mt, b1, b2, b3, b4⟩ := hm2.nat.top
    have c1 := hx2.hdr.cell
    have c2 := hm2.hdr.c0
    have c3 := hm2.nat.hdr.cell
    have hmt : mt ≠ 0 := by rintro rfl; simp at b4; omega
    have hbm := blen_top hmt b3 b4
    have HBM := Lib.hid hbm; have HA3 := Lib.hid a3; have HA4 := Lib.hid a4; have HX2 := Lib.hid hx2; have HM2 := Lib.hid hm2; have HK2 := Lib.hid hkk
    clear hbm a3 a4 b3 b4 hmt hx2 hm2 hkk hB hB1 hm' hx1 hm hx hk1 hk2
    clear hne
    have hv2 : blen xt ≤ blen mt → bval L < 2 * m := fun h => by
      refine two_mod hm1 ?_
      by_cases h0 : xt = 0
      · have h1 := HA4.out
        subst h0
        rw [Nat.zero_add, Nat.mul_one] at h1
        exact blen_mono (by omega)
      · rw [HBM.out, blen_top h0 HA3.out HA4.out]
        omega
    have HV2 := Lib.hid hv2
    clear hv2
    by_cases hgt : blen mt < blen xt
    · go_wp2_with fail
      refine wp_region_txt [0,0,0,1,0,0,0,1,0,0,0,1,2,0,0,0,0,0,0,0,0,0,0,0,0,0,0,0,0,0,0,2,0] (fun w' => w'.cell? ⟨pm, 0, none⟩ = some (.pointer (some ⟨pn, 0, none⟩)) ∧ w'.cell? ⟨pn, 0, none⟩ = some (.slice (some ⟨ln, 0, none⟩) (n + 1) 32) ∧ w'.cell? ⟨ln, n, none⟩ = some (.int .u64 (mt : Int))) (by kernel_rfl) (by kernel_rfl) ⟨c2, c3, b1⟩ ?_
      simp only [withMarks]
      repeat (first
        | ((with_reducible refine txt_v (v := ?_) ?_ ?_); (any_goals ((with_reducible refine Yl.mk ?_ ?_); rfl; intro w hSw; (go_simp <;> (try go_bits) <;> (repeat (first | rw [if_pos (by omega)] | rw [if_neg (by omega)])) <;> with_reducible rfl))); try simp only [Act.put, List.setIfInBounds_toArray, List.set_cons_zero, List.set_cons_succ])
        | ((with_reducible refine txt_u ?_ ?_); rfl; try simp only [Act.put, List.setIfInBounds_toArray, List.set_cons_zero, List.set_cons_succ])
        | ((with_reducible refine txt_l (v := ?_) ?_ ?_); (any_goals ((with_reducible refine Reads.mk ?_ ?_); rfl; (go_simp <;> (try go_bits) <;> (repeat (first | rw [if_pos (by omega)] | rw [if_neg (by omega)])) <;> with_reducible rfl))); try simp only [Act.put, List.setIfInBounds_toArray, List.set_cons_zero, List.set_cons_succ])
        | ((with_reducible refine txt_e ?_ ?_); rfl; intro K hK; go_simp; (first | (refine hK _ _ (by exact ⟨c2, c3, b1⟩) ?_) | ((first | (go_at_call 100; refine (bitLen_any _ (by first | exact a2 | exact b2) _).mono ?_; rintro e w' ⟨rfl, rfl⟩)); dsimp only; refine hK _ _ (by exact ⟨c2, c3, b1⟩) ?_)); clear hK K; try simp only [Act.put, List.setIfInBounds_toArray, List.set_cons_zero, List.set_cons_succ]))
      refine txt_nil ?_
      go_wp2_with fail
      refine (errors_New _ _).mono ?_
      rintro e w3 ⟨⟨b3, rfl, _, _⟩, hk3⟩
      have HKF := Lib.hid (HK2.out.drew.trans hk3 (by simp))
      clear hk3
      go_wp2
      go_ret2
      exact ⟨.inr ⟨_, _, rfl⟩, HKF.out⟩
    · go_wp2_with fail
      refine wp_region_txt [0,0,0,1,0,0,0,1,0,0,0,1,2,0,0,0,0,0,0,0,0,0,0,0,0,0,0,0,0,0,0,2,0] (fun w' => w'.cell? ⟨pm, 0, none⟩ = some (.pointer (some ⟨pn, 0, none⟩)) ∧ w'.cell? ⟨pn, 0, none⟩ = some (.slice (some ⟨ln, 0, none⟩) (n + 1) 32) ∧ w'.cell? ⟨ln, n, none⟩ = some (.int .u64 (mt : Int))) (by kernel_rfl) (by kernel_rfl) ⟨c2, c3, b1⟩ ?_
      simp only [withMarks]
      repeat (first
        | ((with_reducible refine txt_v (v := ?_) ?_ ?_); (any_goals ((with_reducible refine Yl.mk ?_ ?_); rfl; intro w hSw; (go_simp <;> (try go_bits) <;> (repeat (first | rw [if_pos (by omega)] | rw [if_neg (by omega)])) <;> with_reducible rfl))); try simp only [Act.put, List.setIfInBounds_toArray, List.set_cons_zero, List.set_cons_succ])
        | ((with_reducible refine txt_u ?_ ?_); rfl; try simp only [Act.put, List.setIfInBounds_toArray, List.set_cons_zero, List.set_cons_succ])
        | ((with_reducible refine txt_l (v := ?_) ?_ ?_); (any_goals ((with_reducible refine Reads.mk ?_ ?_); rfl; (go_simp <;> (try go_bits) <;> (repeat (first | rw [if_pos (by omega)] | rw [if_neg (by omega)])) <;> with_reducible rfl))); try simp only [Act.put, List.setIfInBounds_toArray, List.set_cons_zero, List.set_cons_succ])
        | ((with_reducible refine txt_e ?_ ?_); rfl; intro K hK; go_simp; (first | (refine hK _ _ (by exact ⟨c2, c3, b1⟩) ?_) | ((first | (go_at_call 100; refine (bitLen_any _ (by first | exact a2 | exact b2) _).mono ?_; rintro e w' ⟨rfl, rfl⟩)); dsimp only; refine hK _ _ (by exact ⟨c2, c3, b1⟩) ?_)); clear hK K; try simp only [Act.put, List.setIfInBounds_toArray, List.set_cons_zero, List.set_cons_succ]))
      refine txt_nil ?_
      have hx3 := HX2.out.drew
      have hm3 : ModB w2.drew pm pn ln (n + 1) m odd m0 rv := ⟨HM2.out.hdr, HM2.out.nat.drew⟩
      have hal : Ch False 0 := ⟨by omega, by simp⟩
      clear c1 c2 c3 a1 b1
      go_wp2_with fail
      refine (maybeSub p lb (n + 1) 32 (bval L) 0 pm pn ln m m0 odd rv _ hx3 hal hm3).mono ?_
      rintro e w3 ⟨rfl, v', g1, g2, g3, hx4, hk4⟩
      have hv' : v' = bval L % m := by
        by_cases hmv : m ≤ bval L
        · have h1 := g1 hmv
          have h2 := HV2.out (by omega)
          rw [Nat.mod_eq_sub_mod hmv, Nat.mod_eq_of_lt (by omega)]
          omega
        · rw [g3 (by omega) (by simp), Nat.mod_eq_of_lt (by omega)]
      subst hv'
      have HX4 := Lib.hid hx4
      have HKF := Lib.hid (HK2.out.drew.trans hk4 (by simp))
      clear hx4 hk4 g1 g2 g3 hx3 hm3
      go_wp2
      go_ret2
      exact ⟨.inl ⟨rfl, HX4.out⟩, HKF.out⟩
  · refine (nat_setBytes_err p lb (n + 1) 32 b o mb cb L _ hx1 hB1 hb1 hLt hLn hcb (by omega) (by omega) (by omega) hne).mono ?_
    rintro e w2 ⟨⟨v2, rfl, t, x, rfl⟩, hk2⟩
    have HKF := Lib.hid (hk1.trans hk2 (by simp))
    clear hB hB1 hne hk1 hk2
    go_wp2
    go_ret2
    exact ⟨.inr ⟨_, _, rfl⟩, HKF.out⟩

end Go.Proofs.YtnfjmngchapdnaaGreatDoor
