import Derived.Test.YtnfjmngchapdnaaGreatDoorMBLook
import Derived.Test.YtnfjmngchapdnaaGreatDoorRows
import Derived.ProofKit
import Derived.OpenShut
import Derived.ShutString
import Derived.ChangeOld
import Derived.Below
import Derived.Lib.SmallJoins
/- laws.FnBDecrypts, by any way. -/
namespace Go.Proofs.YtnfjmngchapdnaaGreatDoor
open Go.RowKit

theorem convert_the2 {w' : World} {a : Option Addr} {m c : Nat} {s : ByteArray} (h : SlB w' a m c (bytesOf s)) : (convert 22 9 (.slice a m c)).run Tryz.prog w' = .ok (.string s) w' := by
  obtain ⟨s', h1, h2, _⟩ := convert_bytes h
  rw [h1, bytesOf_inj h2]
theorem OpR.shape {e : Ending} {ok : Prop} {N S v r : Nat} (h : OpR e ok N S v r) : ∃ (t : ByteArray) (p i : Bool), e = .returned (.tuple #[.string t, .bool p, .bool i]) := by
  rcases h with ⟨_, _, _, O, _, t, p, rfl, _⟩ | ⟨_, rfl⟩
  · exact ⟨t, p, true, rfl⟩
  · exact ⟨_, false, false, rfl⟩
theorem SofR.shape {e : Ending} {ok : Prop} {N S v r : Nat} {A : ByteArray} (h : SofR e ok N S v r A) : ∃ (R : ByteArray) (d : Bool), e = .returned (.tuple #[.string R, .bool d]) := by
  rcases h with ⟨_, _, _, _, O, R, _, _, rfl⟩ | ⟨_, rfl⟩
  · exact ⟨R, true, rfl⟩
  · exact ⟨_, false, rfl⟩
/-- What is opened by the package is what the reference opens. -/
theorem agree_dec {t : ByteArray} {p i : Bool} {e : Ending} {w' : World} {ok : Prop} {N S v r : Nat} (h1 : OpR (.returned (.tuple #[.string t, .bool p, .bool i])) ok N S v r) (h2 : BDecR e w' ok N S v r) :
    ∃ x, e = .returned (.tuple #[x, .bool (i && p)]) ∧ ((i && p) = true → ∃ a n c, x = .slice a n c ∧ SlB w' a n c (bytesOf t)) := by
  rcases h1 with ⟨g1, g2, g3, O, hO, t', p', he, q1, q2⟩ | ⟨hno, he⟩
  · simp only [Ending.returned.injEq, Value.tuple.injEq, Array.mk.injEq, List.cons.injEq, Value.string.injEq, Value.bool.injEq, and_true] at he
    obtain ⟨rfl, rfl, rfl⟩ := he
    rcases h2 with ⟨_, _, _, O', T, a, n, c, hO', hop, hsl, rfl⟩ | ⟨hno, x, rfl⟩
    · have := hO.uniq hO'
      subst this
      cases p
      · exact absurd hop (q2 rfl T)
      · have hT := hop.uniq (q1 rfl)
        subst hT
        exact ⟨_, rfl, fun _ => ⟨a, n, c, rfl, hsl⟩⟩
    · cases p
      · exact ⟨x, rfl, fun h => by simp at h⟩
      · exfalso
        rcases hno with h | h | h | ⟨O', hO', hsh⟩
        · exact h g1
        · omega
        · exact h g3
        · have := hO.uniq hO'
          subst this
          exact hsh _ (q1 rfl)
  · simp only [Ending.returned.injEq, Value.tuple.injEq, Array.mk.injEq, List.cons.injEq, Value.string.injEq, Value.bool.injEq, and_true] at he
    obtain ⟨rfl, rfl, rfl⟩ := he
    rcases h2 with ⟨g1, g2, g3, _⟩ | ⟨_, x, rfl⟩
    · exfalso
      rcases hno with h | h | h
      · exact h g1
      · omega
      · exact h g3
    · exact ⟨x, rfl, fun h => by simp at h⟩
/-- A session key behind the package's opening is what the reference says. -/
theorem agree_ses {R A : ByteArray} {d : Bool} {e : Ending} {w' : World} {ok : Prop} {N S v r ns : Nat} {L : List Nat} (h1 : SofR (.returned (.tuple #[.string R, .bool d])) ok N S v r A) (h2 : BSesR e w' ok N S v r ns L) (hA : A.size = ns ∧ bytesOf A = L) :
    ∃ x, e = .returned (.tuple #[x, .bool d]) ∧ (d = true → ∃ a n c, x = .slice a n c ∧ SlB w' a n c (bytesOf R)) := by
  obtain ⟨rfl, rfl⟩ := hA
  rcases h1 with ⟨g1, g2, g3, g4, O, R', hO, hse, he⟩ | ⟨hno, he⟩
  · simp only [Ending.returned.injEq, Value.tuple.injEq, Array.mk.injEq, List.cons.injEq, Value.string.injEq, Value.bool.injEq, and_true] at he
    obtain ⟨rfl, rfl⟩ := he
    rcases h2 with ⟨_, _, _, _, O', R2, a, c, hO', hse', hsl, rfl⟩ | ⟨hno, x, rfl⟩
    · have := hO.uniq hO'
      subst this
      have := hse.uniq hse'
      subst this
      exact ⟨_, rfl, fun _ => ⟨a, _, c, rfl, hsl⟩⟩
    · exfalso
      rcases hno with h | h | h | h
      · exact h g1
      · omega
      · exact h g3
      · omega
  · simp only [Ending.returned.injEq, Value.tuple.injEq, Array.mk.injEq, List.cons.injEq, Value.string.injEq, Value.bool.injEq, and_true] at he
    obtain ⟨rfl, rfl⟩ := he
    rcases h2 with ⟨g1, g2, g3, g4, _⟩ | ⟨_, x, rfl⟩
    · exfalso
      rcases hno with h | h | h | h
      · exact h g1
      · omega
      · exact h g3
      · omega
    · exact ⟨x, rfl, fun h => by simp at h⟩

set_option maxRecDepth 1000000 in
set_option maxHeartbeats 16000000 in
theorem fnBDecrypts_way (k : KA) (y w3 : Nat) (hy : y < 256) (hw : y % 3 = w3) (s : Option Addr) (mb cb : Nat) (LS : List Nat) (aS : Option Addr) (ns cS : Nat) (A : List Nat) (w : World) (a0 : Addr)
    (hk : k.is w) (hs : SlB w s mb cb LS) (hA : SlB w aS ns cS A) (hnil : aS = none → ns = 0 ∧ cS = 0) (hg : Gd w a0) (ok said : Prop) (D : Nat) (hgt : ok → 1 < bval k.L1)
    (htold : ∀ w', k.is w' → k.tidy → Told (.agg #[.slice k.a1 k.m1 k.c1, .int .i64 k.E, .slice k.a2 k.m2 k.c2, .slice k.a3 k.m3 k.c3, .slice k.a4 k.m4 k.c4, .slice k.a5 k.m5 k.c5, .slice k.a6 k.m6 k.c6, .slice k.a7 k.m7 k.c7]) (w3 : Int) w' ok said (bval k.L1) D)
    (hkeyed : ∀ w', k.is w' → Gd w' a0 → Looked k w3 said → Keyed (.agg #[.slice k.a1 k.m1 k.c1, .int .i64 k.E, .slice k.a2 k.m2 k.c2, .slice k.a3 k.m3 k.c3, .slice k.a4 k.m4 k.c4, .slice k.a5 k.m5 k.c5, .slice k.a6 k.m6 k.c6, .slice k.a7 k.m7 k.c7]) (w3 : Int) w' ok (bval k.L1) D a0) :
    Calls Tryz.prog 3 #[.agg #[.slice k.a1 k.m1 k.c1, .int .i64 k.E, .slice k.a2 k.m2 k.c2, .slice k.a3 k.m3 k.c3, .slice k.a4 k.m4 k.c4, .slice k.a5 k.m5 k.c5, .slice k.a6 k.m6 k.c6, .slice k.a7 k.m7 k.c7], .int .u8 (y : Int), .slice s mb cb, .slice aS ns cS] w fun e w' => e = .returned (.bool true) ∧ Keeps [] w w' := by
  have hw3 : w3 < 3 := by omega
  have hb0 := alloc_blk w (.cells #[.slice k.a1 k.m1 k.c1, .int .i64 k.E, .slice k.a2 k.m2 k.c2, .slice k.a3 k.m3 k.c3, .slice k.a4 k.m4 k.c4, .slice k.a5 k.m5 k.c5, .slice k.a6 k.m6 k.c6, .slice k.a7 k.m7 k.c7] 24)
  have hk0 : Keeps [] w (w.alloc (.cells #[.slice k.a1 k.m1 k.c1, .int .i64 k.E, .slice k.a2 k.m2 k.c2, .slice k.a3 k.m3 k.c3, .slice k.a4 k.m4 k.c4, .slice k.a5 k.m5 k.c5, .slice k.a6 k.m6 k.c6, .slice k.a7 k.m7 k.c7] 24)) := (Keeps.refl _ _).alloc _
  obtain ⟨wa, hwa⟩ : ∃ wa, wa = w.alloc (.cells #[.slice k.a1 k.m1 k.c1, .int .i64 k.E, .slice k.a2 k.m2 k.c2, .slice k.a3 k.m3 k.c3, .slice k.a4 k.m4 k.c4, .slice k.a5 k.m5 k.c5, .slice k.a6 k.m6 k.c6, .slice k.a7 k.m7 k.c7] 24) := ⟨_, rfl⟩
  rw [← hwa] at hb0 hk0
  have HKB := Lib.hid hb0; have HK := Lib.hid hk0; have HI := Lib.hid hk; have HS := Lib.hid hs; have HA := Lib.hid hA; have HNIL := Lib.hid hnil; have HG := Lib.hid hg; have HGT := Lib.hid hgt; have HTOLD := Lib.hid htold; have HKEYED := Lib.hid hkeyed
  obtain ⟨k0, k1, k2, k3, k4, k5, k6, k7⟩ := key8 hb0
  have hWi : (y : Int) % 3 = (w3 : Int) := by omega
  have HW := Lib.hid hw
  clear hb0 hk0 hk hs hA hnil hg hgt htold hkeyed hw
  go_enter Tryz.func3, Tryz.ntmps3
  go_wp2_with fail
  rw [← hwa]
  clear hwa
  refine (zzFits4_any k.E k.a1 k.a2 k.a3 k.a4 k.a5 k.a6 k.a7 k.m1 k.c1 k.m2 k.c2 k.m3 k.c3 k.m4 k.c4 k.m5 k.c5 k.m6 k.c6 k.m7 k.c7 _).mono ?_
  rintro e wb ⟨⟨v, rfl, b, rfl⟩, hs⟩
  clear k0 k1 k2 k3 k4 k5 k6 k7
  replace HKB := Lib.hid (blk_keeps HKB.out hs (by simp)); replace HK := Lib.hid (HK.out.trans1 hs)
  clear hs
  obtain ⟨k0, k1, k2, k3, k4, k5, k6, k7⟩ := key8 HKB.out
  cases b
  · go_wp2
    go_ret
    exact ⟨rfl, HK.out⟩
  by_cases hz1 : mb ≤ 2147483647
  rotate_left
  · have z1 : (2147483647 : Int) < (mb : Int) := by omega
    go_wp2
    go_ret
    exact ⟨rfl, HK.out⟩
  have z1 : ¬ (2147483647 : Int) < (mb : Int) := by omega
  by_cases hz2 : ns ≤ 2147483647
  rotate_left
  · have z2 : (2147483647 : Int) < (ns : Int) := by omega
    go_wp2
    go_ret
    exact ⟨rfl, HK.out⟩
  have z2 : ¬ (2147483647 : Int) < (ns : Int) := by omega
  go_wp2_with fail
  refine (bLooked_any k w3 hw3 _ (HI.out.kept HK.out) ok said D (fun ht => HTOLD.out _ (HI.out.kept HK.out) ht)).mono ?_
  rintro e wc ⟨⟨b, rfl, hb⟩, hs⟩
  have HB := Lib.hid hb
  clear hb
  clear k0 k1 k2 k3 k4 k5 k6 k7
  replace HKB := Lib.hid (blk_keeps HKB.out hs (by simp)); replace HK := Lib.hid (HK.out.trans1 hs)
  clear hs
  obtain ⟨k0, k1, k2, k3, k4, k5, k6, k7⟩ := key8 HKB.out
  cases b
  · clear k0 k1 k2 k3 k4 k5 k6 k7
    go_wp2_with fail
    refine (bAwake_any _).mono ?_
    rintro e wz ⟨rfl, hz⟩
    have HKz := Lib.hid (HK.out.trans1 hz)
    clear hz
    go_wp2
    go_ret
    exact ⟨rfl, HKz.out⟩
  have HLK := Lib.hid (HB.out.1 rfl)
  have HT := Lib.hid HLK.out.1
  have HSAID := Lib.hid HLK.out.2.2.2
  have r1 : k.m1 ≤ 240 := by rw [← HI.out.s1.1]; exact HT.out.t1.1
  clear HB
  go_wp2_with fail
  refine (bWidth_any k.a1 k.m1 k.c1 k.L1 k.E k.a2 k.a3 k.a4 k.a5 k.a6 k.a7 k.m2 k.c2 k.m3 k.c3 k.m4 k.c4 k.m5 k.c5 k.m6 k.c6 k.m7 k.c7 _ (HI.out.s1.kept HK.out) (by omega)).mono ?_
  rintro e wd ⟨rfl, hs⟩
  obtain ⟨S, hS⟩ : ∃ S, S = (blen (bval k.L1) + 7) / 8 := ⟨_, rfl⟩
  rw [← hS]
  have HSW := Lib.hid hS
  clear hS
  clear k0 k1 k2 k3 k4 k5 k6 k7
  replace HKB := Lib.hid (blk_keeps HKB.out hs (by simp)); replace HK := Lib.hid (HK.out.trans1 hs)
  clear hs
  obtain ⟨k0, k1, k2, k3, k4, k5, k6, k7⟩ := key8 HKB.out
  by_cases hmS : mb = S
  rotate_left
  · have i1 : ((mb : Int) != (S : Int)) = true := by simp; omega
    clear k0 k1 k2 k3 k4 k5 k6 k7
    go_wp2_with fail
    refine (bAwake_any _).mono ?_
    rintro e wz ⟨rfl, hz⟩
    have HKz := Lib.hid (HK.out.trans1 hz)
    clear hz
    go_wp2
    go_ret
    exact ⟨rfl, HKz.out⟩
  subst hmS
  have i1 : ((mb : Int) != (mb : Int)) = false := by simp
  have hmb2 : mb ≤ 240 := by have := HLK.out.2.1; have := HSW.out; omega
  by_cases hns : ns ≤ 300
  rotate_left
  · have i2 : (300 : Int) < (ns : Int) := by omega
    clear k0 k1 k2 k3 k4 k5 k6 k7
    go_wp2_with fail
    refine (bAwake_any _).mono ?_
    rintro e wz ⟨rfl, hz⟩
    have HKz := Lib.hid (HK.out.trans1 hz)
    clear hz
    go_wp2
    go_ret
    exact ⟨rfl, HKz.out⟩
  have i2 : ¬ (300 : Int) < (ns : Int) := by omega
  have HMB := HSW
  obtain ⟨r, hr⟩ : ∃ r, r = bval LS ^ D % bval k.L1 := ⟨_, rfl⟩
  have HRR := Lib.hid hr
  have hstr := strB_val HS.out
  have HSTR := Lib.hid hstr
  have hsta := strB_val HA.out
  have HSTA : Hid ((strB A).size ≤ 300) := Lib.hid (by rw [hsta.2]; exact hns)
  have HSTA2 : Hid ((strB A).size = ns ∧ bytesOf (strB A) = A) := Lib.hid ⟨hsta.2, hsta.1⟩
  clear hr hstr hsta
  have hcs := convert_strB (HS.out.kept HK.out)
  go_wp2_with fail
  clear hcs
  refine (bOpened_any k (w3 : Int) (strB LS) mb _ (HI.out.kept HK.out) HT.out ok said D (HTOLD.out _ (HI.out.kept HK.out) HT.out) HSAID.out HSTR.out.2 HMB.out hmb2 HGT.out).mono ?_
  rintro e we ⟨hop, hs⟩
  rw [HSTR.out.1, ← HRR.out] at hop
  obtain ⟨t, p, i, rfl⟩ := hop.shape
  have HOP := Lib.hid hop
  clear hop
  clear k0 k1 k2 k3 k4 k5 k6 k7
  replace HKB := Lib.hid (blk_keeps HKB.out hs (by simp)); replace HK := Lib.hid (HK.out.trans1 hs)
  clear hs
  obtain ⟨k0, k1, k2, k3, k4, k5, k6, k7⟩ := key8 HKB.out
  go_wp2_with fail
  refine (bDecrypt_any k (w3 : Int) s mb cb LS _ ok (bval k.L1) D a0 (HKEYED.out _ (HI.out.kept HK.out) (HG.out.kept HK.out) HLK.out) (HS.out.kept HK.out) HMB.out (by omega)).mono ?_
  rintro e wf ⟨hbd, hs⟩
  rw [← HRR.out] at hbd
  obtain ⟨x1, rfl, hd1⟩ := agree_dec HOP.out hbd
  have HD1 := Lib.hid hd1
  clear hbd hd1 HOP
  clear k0 k1 k2 k3 k4 k5 k6 k7
  replace HKB := Lib.hid (blk_keeps HKB.out hs (by simp)); replace HK := Lib.hid (HK.out.trans1 hs)
  clear hs
  obtain ⟨k0, k1, k2, k3, k4, k5, k6, k7⟩ := key8 HKB.out
  cases i
  · rw [Bool.false_and]
    clear HD1
    have hcs := convert_strB (HS.out.kept HK.out)
    have hca := convert_strB (HA.out.kept HK.out)
    go_wp2_with fail
    clear hcs hca
    refine (bSessionOf_any k (w3 : Int) (strB LS) (strB A) mb _ (HI.out.kept HK.out) HT.out ok said D (HTOLD.out _ (HI.out.kept HK.out) HT.out) HSAID.out HSTR.out.2 HMB.out hmb2 HGT.out HSTA.out).mono ?_
    rintro e wq ⟨hsof, hs⟩
    rw [HSTR.out.1, ← HRR.out] at hsof
    obtain ⟨R, d, rfl⟩ := hsof.shape
    have HSOF := Lib.hid hsof
    clear hsof
    clear k0 k1 k2 k3 k4 k5 k6 k7
    replace HKB := Lib.hid (blk_keeps HKB.out hs (by simp)); replace HK := Lib.hid (HK.out.trans1 hs)
    clear hs
    obtain ⟨k0, k1, k2, k3, k4, k5, k6, k7⟩ := key8 HKB.out
    go_wp2_with fail
    refine (bSession_any k (w3 : Int) s mb cb LS aS ns cS A _ ok (bval k.L1) D a0 (HKEYED.out _ (HI.out.kept HK.out) (HG.out.kept HK.out) HLK.out) (HS.out.kept HK.out) HMB.out (by omega) (HA.out.kept HK.out) hns HNIL.out).mono ?_
    rintro e wr ⟨hbs, hs⟩
    rw [← HRR.out] at hbs
    obtain ⟨x2, rfl, hd2⟩ := agree_ses HSOF.out hbs HSTA2.out
    have HD2 := Lib.hid hd2
    clear hbs hd2 HSOF
    clear k0 k1 k2 k3 k4 k5 k6 k7
    replace HKB := Lib.hid (blk_keeps HKB.out hs (by simp)); replace HK := Lib.hid (HK.out.trans1 hs)
    clear hs
    obtain ⟨k0, k1, k2, k3, k4, k5, k6, k7⟩ := key8 HKB.out
    clear k0 k1 k2 k3 k4 k5 k6 k7
    cases d
    · go_wp2_with fail
      refine (bAwake_any _).mono ?_
      rintro e wz ⟨rfl, hz⟩
      have HKz := Lib.hid (HK.out.trans1 hz)
      clear hz
      go_wp2
      go_ret
      exact ⟨rfl, HKz.out⟩
    · obtain ⟨a2, n2, c2, rfl, hsl⟩ := HD2.out rfl
      have hcv := convert_the2 hsl
      go_wp2_with fail
      refine (bAwake_any _).mono ?_
      rintro e wz ⟨rfl, hz⟩
      have HKz := Lib.hid (HK.out.trans1 hz)
      clear hz hcv hsl
      go_wp2
      go_ret
      exact ⟨rfl, HKz.out⟩
  cases p
  · rw [Bool.and_false]
    clear HD1
    have hcs := convert_strB (HS.out.kept HK.out)
    have hca := convert_strB (HA.out.kept HK.out)
    go_wp2_with fail
    clear hcs hca
    refine (bSessionOf_any k (w3 : Int) (strB LS) (strB A) mb _ (HI.out.kept HK.out) HT.out ok said D (HTOLD.out _ (HI.out.kept HK.out) HT.out) HSAID.out HSTR.out.2 HMB.out hmb2 HGT.out HSTA.out).mono ?_
    rintro e wq ⟨hsof, hs⟩
    rw [HSTR.out.1, ← HRR.out] at hsof
    obtain ⟨R, d, rfl⟩ := hsof.shape
    have HSOF := Lib.hid hsof
    clear hsof
    clear k0 k1 k2 k3 k4 k5 k6 k7
    replace HKB := Lib.hid (blk_keeps HKB.out hs (by simp)); replace HK := Lib.hid (HK.out.trans1 hs)
    clear hs
    obtain ⟨k0, k1, k2, k3, k4, k5, k6, k7⟩ := key8 HKB.out
    go_wp2_with fail
    refine (bSession_any k (w3 : Int) s mb cb LS aS ns cS A _ ok (bval k.L1) D a0 (HKEYED.out _ (HI.out.kept HK.out) (HG.out.kept HK.out) HLK.out) (HS.out.kept HK.out) HMB.out (by omega) (HA.out.kept HK.out) hns HNIL.out).mono ?_
    rintro e wr ⟨hbs, hs⟩
    rw [← HRR.out] at hbs
    obtain ⟨x2, rfl, hd2⟩ := agree_ses HSOF.out hbs HSTA2.out
    have HD2 := Lib.hid hd2
    clear hbs hd2 HSOF
    clear k0 k1 k2 k3 k4 k5 k6 k7
    replace HKB := Lib.hid (blk_keeps HKB.out hs (by simp)); replace HK := Lib.hid (HK.out.trans1 hs)
    clear hs
    obtain ⟨k0, k1, k2, k3, k4, k5, k6, k7⟩ := key8 HKB.out
    clear k0 k1 k2 k3 k4 k5 k6 k7
    cases d
    · go_wp2_with fail
      refine (bAwake_any _).mono ?_
      rintro e wz ⟨rfl, hz⟩
      have HKz := Lib.hid (HK.out.trans1 hz)
      clear hz
      go_wp2
      go_ret
      exact ⟨rfl, HKz.out⟩
    · obtain ⟨a2, n2, c2, rfl, hsl⟩ := HD2.out rfl
      have hcv := convert_the2 hsl
      go_wp2_with fail
      refine (bAwake_any _).mono ?_
      rintro e wz ⟨rfl, hz⟩
      have HKz := Lib.hid (HK.out.trans1 hz)
      clear hz hcv hsl
      go_wp2
      go_ret
      exact ⟨rfl, HKz.out⟩
  · obtain ⟨a1, n1, c1, rfl, hsl1⟩ := HD1.out rfl
    have hcv1 := convert_the2 hsl1
    rw [Bool.and_true]
    clear HD1
    have hcs := convert_strB (HS.out.kept HK.out)
    have hca := convert_strB (HA.out.kept HK.out)
    go_wp2_with fail
    clear hcs hca
    refine (bSessionOf_any k (w3 : Int) (strB LS) (strB A) mb _ (HI.out.kept HK.out) HT.out ok said D (HTOLD.out _ (HI.out.kept HK.out) HT.out) HSAID.out HSTR.out.2 HMB.out hmb2 HGT.out HSTA.out).mono ?_
    rintro e wq ⟨hsof, hs⟩
    rw [HSTR.out.1, ← HRR.out] at hsof
    obtain ⟨R, d, rfl⟩ := hsof.shape
    have HSOF := Lib.hid hsof
    clear hsof
    clear k0 k1 k2 k3 k4 k5 k6 k7
    replace HKB := Lib.hid (blk_keeps HKB.out hs (by simp)); replace HK := Lib.hid (HK.out.trans1 hs)
    clear hs
    obtain ⟨k0, k1, k2, k3, k4, k5, k6, k7⟩ := key8 HKB.out
    go_wp2_with fail
    refine (bSession_any k (w3 : Int) s mb cb LS aS ns cS A _ ok (bval k.L1) D a0 (HKEYED.out _ (HI.out.kept HK.out) (HG.out.kept HK.out) HLK.out) (HS.out.kept HK.out) HMB.out (by omega) (HA.out.kept HK.out) hns HNIL.out).mono ?_
    rintro e wr ⟨hbs, hs⟩
    rw [← HRR.out] at hbs
    obtain ⟨x2, rfl, hd2⟩ := agree_ses HSOF.out hbs HSTA2.out
    have HD2 := Lib.hid hd2
    clear hbs hd2 HSOF
    clear k0 k1 k2 k3 k4 k5 k6 k7
    replace HKB := Lib.hid (blk_keeps HKB.out hs (by simp)); replace HK := Lib.hid (HK.out.trans1 hs)
    clear hs
    obtain ⟨k0, k1, k2, k3, k4, k5, k6, k7⟩ := key8 HKB.out
    clear k0 k1 k2 k3 k4 k5 k6 k7
    cases d
    · go_wp2_with fail
      refine (bAwake_any _).mono ?_
      rintro e wz ⟨rfl, hz⟩
      have HKz := Lib.hid (HK.out.trans1 hz)
      clear hz
      go_wp2
      go_ret
      exact ⟨rfl, HKz.out⟩
    · obtain ⟨a2, n2, c2, rfl, hsl⟩ := HD2.out rfl
      have hcv := convert_the2 hsl
      go_wp2_with fail
      refine (bAwake_any _).mono ?_
      rintro e wz ⟨rfl, hz⟩
      have HKz := Lib.hid (HK.out.trans1 hz)
      clear hz hcv hsl
      go_wp2
      go_ret
      exact ⟨rfl, HKz.out⟩

end Go.Proofs.YtnfjmngchapdnaaGreatDoor

/- The key as an argument, opened. -/
namespace Go.Proofs.YtnfjmngchapdnaaGreatDoor
open Go.ChangeShapes Go.WideShapes Go.ChangeAt Go.RowKit

theorem own : ownKnob Tryz.prog.godebug = none := by kernel_rfl
theorem laidOut : laidOutB Tryz.prog = true := by kernel_rfl

section
variable {H : Type} {enc : TypeId × Value → H} {P : Program} {w : World} {base : Nat} {spare : Nat → Bool} {held : Bool}
theorem open_fields {r : Reach} {b0 : Nat} {t : TypeId} {fs : Array Field} {v : Value} {d : DataW H} {p : List MemPlace} (ht : P.underlying t = some (.struct fs)) (hone : Go.Deep.oneCellFields P fs = true) (hC : P.cellsOf t = fs.size)
    (hv : Value.okWide P w r b0 t v) (h : DataW.Trod enc P w base spare held t v d p) :
    ∃ cs : Array Value, v = .agg cs ∧ cs.size = fs.size ∧ ∃ n, ∀ (i : Nat) (f : Field) (c : Value), fs[i]? = some f → cs[i]? = some c → ∃ y, DataW.trod enc P w base spare held n f.type [c] = some y := by
  obtain ⟨cs, rfl, hsz⟩ := okWide_struct ht hv
  obtain ⟨fuel, hf⟩ := h
  obtain ⟨xs, n, _, _, hl, hlen, hff⟩ := DataW.trod_struct ht hf
  refine ⟨cs, rfl, hsz.trans hC, n, fun i f c hi hc => ?_⟩
  obtain ⟨o, k⟩ := Go.Deep.hone_of hone i f hi
  have h1 := hff i f hi
  have hlt : i < fs.size := (Array.getElem?_eq_some_iff.1 hi).1
  have hlx : i < xs.length := by omega
  rw [o, k, List.getElem?_eq_getElem hlx] at h1
  refine ⟨xs[i], ?_⟩
  rw [← h1]
  congr 1
  have hcl : i < cs.size := (Array.getElem?_eq_some_iff.1 hc).1
  have e1 : (Value.agg cs).cells.toList = cs.toList := rfl
  have e2 : cs.toList[i]? = some c := by simpa using hc
  have hcl2 : i < cs.toList.length := by simpa using hcl
  rw [e1, List.drop_eq_getElem_cons hcl2]
  rw [List.getElem?_eq_getElem hcl2] at e2
  simp only [Option.some.injEq] at e2
  rw [e2]
  simp
end

theorem array8 {α : Type} {cs : Array α} (h : cs.size = 8) : ∃ c0 c1 c2 c3 c4 c5 c6 c7, cs = #[c0, c1, c2, c3, c4, c5, c6, c7] := by
  obtain ⟨l⟩ := cs
  match l, h with
  | [c0, c1, c2, c3, c4, c5, c6, c7], _ => exact ⟨c0, c1, c2, c3, c4, c5, c6, c7, rfl⟩

/-- A slice of bytes that came in. -/
theorem open_bytes {H : Type} {enc : TypeId × Value → H} {W : World} {n : Nat} {v : Value} {y : DataW H × List MemPlace} (h : DataW.trod enc Tryz.prog W 0 (fun _ => true) true n 22 [v] = some y) :
    ∃ a m c L, v = .slice a m c ∧ SlB W a m c L := by
  rcases open_ints und_bytes und_u8 (by kernel_rfl) h with ⟨hcs, _⟩ | ⟨x, l, c, zs, hcs, _, hl, hm, hz, _, hcell, hwz⟩
  · have e : v = .slice none 0 0 := by simpa using hcs
    exact ⟨none, 0, 0, [], e, rfl, Nat.le_refl _, fun x hx => by simp at hx, fun h => absurd rfl h⟩
  · have e : v = .slice (some x) l c := by simpa using hcs
    have hzc : zs.length = c := by simpa using hz
    have hb : ∀ z, z ∈ zs → 0 ≤ z ∧ z ≤ 255 := fun z hz => by
      have := hwz z hz
      exact bounds_u8 this
    refine ⟨some x, l, c, (zs.take l).map Int.toNat, e, by simp; omega, hl, ?_, fun hne => ?_⟩
    · intro y hy
      obtain ⟨z, hz, rfl⟩ := List.mem_map.1 hy
      have := hb z (List.mem_of_mem_take hz)
      omega
    · have hl0 : 0 < l := by
        rcases Nat.eq_zero_or_pos l with h | h
        · subst h; simp at hne
        · exact h
      obtain ⟨b, off, spot⟩ := x
      have hc0 := hcell 0 (by omega)
      have hspot : spot = none := by simpa [Addr.add] using World.cell?_spot hc0
      subst hspot
      refine ⟨b, off, rfl, World.block_lt_of_cell? W _ hc0, fun i hi => ?_⟩
      have hi' : i < zs.length := by simp at hi; omega
      have h1 := hcell i hi'
      have e1 : (⟨b, off, none⟩ : Addr).add i = ⟨b, off + i, none⟩ := by unfold Addr.add; split <;> simp_all
      rw [e1] at h1
      rw [h1]
      have h2 := hb zs[i] (List.getElem_mem hi')
      simp [List.getD, List.getElem?_eq_getElem hi']
      omega

set_option maxRecDepth 100000 in
/-- A key that came in, opened. -/
theorem open_key {H : Type} {enc : TypeId × Value → H} {W : World} {r : Reach} {b0 : Nat} {v : Value} {d : DataW H} {p : List MemPlace} (hv : Value.okWide Tryz.prog W r b0 24 v)
    (h : DataW.Trod enc Tryz.prog W 0 (fun _ => true) true 24 v d p) :
    ∃ (a a2 a3 a4 a5 a6 a7 : Option Addr) (m cb n2 c2 n3 c3 n4 c4 n5 c5 n6 c6 n7 c7 : Nat) (L L2 L3 L4 L5 L6 L7 : List Nat) (E : Int),
      v = .agg #[.slice a m cb, .int .i64 E, .slice a2 n2 c2, .slice a3 n3 c3, .slice a4 n4 c4, .slice a5 n5 c5, .slice a6 n6 c6, .slice a7 n7 c7] ∧
      (-9223372036854775808 ≤ E ∧ E < 9223372036854775808) ∧ SlB W a m cb L ∧ SlB W a2 n2 c2 L2 ∧ SlB W a3 n3 c3 L3 ∧ SlB W a4 n4 c4 L4 ∧ SlB W a5 n5 c5 L5 ∧ SlB W a6 n6 c6 L6 ∧ SlB W a7 n7 c7 L7 := by
  obtain ⟨cs, rfl, hsz, n, hf⟩ := open_fields Tryz.underlying24 (by kernel_rfl) (by kernel_rfl) hv h
  obtain ⟨v0, v1, v2, v3, v4, v5, v6, v7, rfl⟩ := array8 hsz
  obtain ⟨y0, h0⟩ := hf 0 _ v0 rfl rfl
  obtain ⟨y1, h1⟩ := hf 1 _ v1 rfl rfl
  obtain ⟨y2, h2⟩ := hf 2 _ v2 rfl rfl
  obtain ⟨y3, h3⟩ := hf 3 _ v3 rfl rfl
  obtain ⟨y4, h4⟩ := hf 4 _ v4 rfl rfl
  obtain ⟨y5, h5⟩ := hf 5 _ v5 rfl rfl
  obtain ⟨y6, h6⟩ := hf 6 _ v6 rfl rfl
  obtain ⟨y7, h7⟩ := hf 7 _ v7 rfl rfl
  clear hf
  obtain ⟨a, m, cb, L, rfl, s0⟩ := open_bytes h0
  obtain ⟨E, e1, _, wE⟩ := DataW.trod_int Tryz.underlying3 h1
  have e1' : v1 = .int .i64 E := by simpa using e1
  subst e1'
  obtain ⟨a2, n2, c2, L2, rfl, s2⟩ := open_bytes h2
  obtain ⟨a3, n3, c3, L3, rfl, s3⟩ := open_bytes h3
  obtain ⟨a4, n4, c4, L4, rfl, s4⟩ := open_bytes h4
  obtain ⟨a5, n5, c5, L5, rfl, s5⟩ := open_bytes h5
  obtain ⟨a6, n6, c6, L6, rfl, s6⟩ := open_bytes h6
  obtain ⟨a7, n7, c7, L7, rfl, s7⟩ := open_bytes h7
  have hE := bounds_i64 wE
  exact ⟨a, a2, a3, a4, a5, a6, a7, m, cb, n2, c2, n3, c3, n4, c4, n5, c5, n6, c6, n7, c7, L, L2, L3, L4, L5, L6, L7, E, rfl, by omega, s0, s2, s3, s4, s5, s6, s7⟩

end Go.Proofs.YtnfjmngchapdnaaGreatDoor
