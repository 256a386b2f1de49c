import Derived.Test.YtnfjmngchapdnaaGreatDoorMNatBytes
import Derived.Deep.DeepCutAuto
/- rsa: checkPrivateKey, of a key with what is computed ahead: what it asks for; its text cut at regions. -/
namespace Go.Proofs.YtnfjmngchapdnaaGreatDoor
open Go.RowKit

/-- What checkPrivateKey asks for. -/
structure PrivOk (K : PK) : Prop where
  pub : PubOk K.N.v K.E
  pN : K.P.v < K.N.v
  qN : K.Q.v < K.N.v
  pq : K.P.v * K.Q.v % K.N.v = 0
  p3 : 2 < K.P.v
  dp : bval K.LP < K.P.v - 1
  ep : K.E.toNat * bval K.LP % (K.P.v - 1) = 1
  q3 : 2 < K.Q.v
  dq : bval K.LQ < K.Q.v - 1
  eq : K.E.toNat * bval K.LQ % (K.Q.v - 1) = 1
  qi : K.Q.v % K.P.v * K.QI % K.P.v = 1
  d1 : K.D % (K.P.v - 1) = bval K.LP
  d2 : K.D % (K.Q.v - 1) = bval K.LQ
  ne : K.P.v ≠ K.Q.v
  far : blen K.N.v / 2 < blen (K.P.v - K.Q.v + (K.Q.v - K.P.v)) + 100
  dn : blen K.N.v / 2 < blen K.D
def ChkR (e : Ending) (K : PK) : Prop := ∃ v, e = .returned v ∧ ((PrivOk K ∧ v = .nilIface) ∨ (¬ PrivOk K ∧ ∃ t x, v = .iface t x))
def chkPost (K : PK) (w : World) (e : Ending) (w' : World) : Prop := ChkR e K ∧ K.is w' ∧ Keeps [K.pk] w w'
theorem fit_of_lt {v m n : Nat} (h : v < m) (hm : m < BB ^ n) : (blen v + 7) / 8 ≤ 8 * n := by
  have := blen_le_n (n := n) (m := v) (by omega)
  omega
theorem MA.is.keeps {S : List Nat} {a : MA} {w w' : World} (h : a.is w) (hk : Keeps S w w') (hS : ∀ x, x ∈ [a.m, a.p, a.l, a.r, a.s] → x ∉ S) : a.is w' :=
  ModX.keeps h hk (hS _ (by simp)) (hS _ (by simp)) (hS _ (by simp)) (hS _ (by simp)) (hS _ (by simp))

/-- The first region of a piece of text. -/
def firstReg : Code → Option Nat
  | .region n _ _ => some n
  | .seq a b => match firstReg a with
    | some n => some n
    | none => firstReg b
  | _ => none
/-- The rest of a text behind the region n, and that region. -/
def tailOf (n : Nat) : Code → Option Code
  | .seq a b => if firstReg a = some n then some b else tailOf n b
  | _ => none
def regOf (n : Nat) : Code → Option Code
  | .seq a b => if firstReg a = some n then some a else regOf n b
  | _ => none
noncomputable def reg15 : Code := ((Tryz.f54.body.bind (regOf 15)).getD .skip)
noncomputable def tail15 : Code := ((Tryz.f54.body.bind (tailOf 15)).getD .skip)
noncomputable def reg25 : Code := ((Tryz.f54.body.bind (regOf 25)).getD .skip)
noncomputable def tail25 : Code := ((Tryz.f54.body.bind (tailOf 25)).getD .skip)
noncomputable def reg36 : Code := ((Tryz.f54.body.bind (regOf 36)).getD .skip)
noncomputable def tail36 : Code := ((Tryz.f54.body.bind (tailOf 36)).getD .skip)
noncomputable def reg46 : Code := ((Tryz.f54.body.bind (regOf 46)).getD .skip)
noncomputable def tail46 : Code := ((Tryz.f54.body.bind (tailOf 46)).getD .skip)
noncomputable def reg51 : Code := ((Tryz.f54.body.bind (regOf 51)).getD .skip)
noncomputable def tail51 : Code := ((Tryz.f54.body.bind (tailOf 51)).getD .skip)
noncomputable def reg57 : Code := ((Tryz.f54.body.bind (regOf 57)).getD .skip)
noncomputable def tail57 : Code := ((Tryz.f54.body.bind (tailOf 57)).getD .skip)

end Go.Proofs.YtnfjmngchapdnaaGreatDoor

/- rsa: checkPrivateKey, from its region 57 on. -/
namespace Go.Proofs.YtnfjmngchapdnaaGreatDoor
open Go.RowKit

set_option maxRecDepth 1000000 in
set_option maxHeartbeats 4000000 in
theorem chk57 {Kk : Act → World → Prop} (Z : PK) (w0 : World) {u1 u2 u3 u4 u8 u9 u10 u11 u12 u13 u14 u15 u16 u17 u18 u19 u20 u21 u22 u23 u24 u25 u26 u27 u28 u29 u30 u31 u32 u33 u34 u35 u36 u37 u38 u39 u40 u41 u42 u43 u44 u45 u46 u47 u48 u49 u50 u51 u52 u53 u54 u55 u56 u57 u58 u59 u60 u61 u62 u63 u64 u65 u66 u67 u68 u69 u70 u71 u72 u73 u74 u75 u76 u77 u78 u79 u80 u81 u82 u83 u84 u85 u86 u87 u88 u89 u90 u91 u92 u93 u94 u95 u96 u97 u98 u99 u100 u101 u102 u103 u104 u105 u106 u107 u108 u109 u110 u111 u112 u113 u114 u115 u116 u117 u118 u119 u120 u121 u122 u123 u124 u125 u126 u127 u128 u129 u130 u131 u132 u133 u134 u135 u136 u137 u138 u139 u140 u141 u142 u143 u144 u145 u146 u147 u148 u149 u150 u151 u152 u153 u154 u155 u156 u157 u158 u159 u160 u161 u162 u163 u164 u165 u166 u167 u168 u169 u170 u171 u172 u173 u174 u175 u176 u177 u178 u179 u180 u181 u182 u183 u184 u185 u186 u187 u188 u189 u190 u191 u192 u193 u194 u195 u196 u197 u198 u199 u200 u201 u202 u203 u204 u205 u206 u207 u208 u209 u210 u211 u212 u213 u214 u215 u216 u217 u218 u219 u220 u221 u222 u223 u224 u225 u226 u227 u228 u229 u230 u231 u232 u233 u234 u235 u236 u237 u238 u239 u240 u241 u242 u243 u244 u245 u246 u247 u248 u249 u250 u251 u252 u253 u254 u255 u256 u257 u258 u259 u260 u261 u262 u263 u264 u265 u266 u267 u268 u269 u270 u271 u272 u273 u274 u275 u276 u277 u278 u279 u280 u281 u282 u283 u284 u285 u286 u287 u288 u289 u290 u291 u292 u293 u294 u295 u296 u297 u298 u299 u300 u301 u302 u303 u304 u305 u306 u307 u308 u309 : Value}
    (w : World) (HI : Hid (Z.is w)) (HK : Hid (Keeps [Z.pk] w0 w))
    (HG : Hid (Z.P.v ≠ Z.Q.v → blen Z.N.v / 2 < blen (Z.P.v - Z.Q.v + (Z.Q.v - Z.P.v)) + 100 → blen Z.N.v / 2 < blen Z.D → PrivOk Z))
    (hZ : ∀ a w, Code.wp Tryz.prog (tail57) (bodyPost Tryz.prog Tryz.f54 (chkPost Z w0)) a w → Kk a w) :
    Code.wp Tryz.prog (reg57) (Exit.then Kk (bodyPost Tryz.prog Tryz.f54 (chkPost Z w0))) ⟨#[.pointer (some ⟨Z.pk, 0, none⟩), u1, u2, u3, u4, .pointer (some ⟨Z.N.m, 0, none⟩), .pointer (some ⟨Z.P.m, 0, none⟩), .pointer (some ⟨Z.Q.m, 0, none⟩), u8, u9, u10, u11, u12, u13, u14, u15, u16, u17, u18, u19, u20, u21, u22, u23, u24, u25, u26, u27, u28, u29, u30, u31, u32, u33, u34, u35, u36, u37, u38, u39, u40, u41, u42, u43, u44, u45, u46, u47, u48, u49, u50, u51, u52, u53, u54, u55, u56, u57, u58, u59, u60, u61, u62, u63, u64, u65, u66, u67, u68, u69, u70, u71, u72, u73, u74, u75, u76, u77, u78, u79, u80, u81, u82, u83, u84, u85, u86, u87, u88, u89, u90, u91, u92, u93, u94, u95, u96, u97, u98, u99, u100, u101, u102, u103, u104, u105, u106, u107, u108, u109, u110, u111, u112, u113, u114, u115, u116, u117, u118, u119, u120, u121, u122, u123, u124, u125, u126, u127, u128, u129, u130, u131, u132, u133, u134, u135, u136, u137, u138, u139, u140, u141, u142, u143, u144, u145, u146, u147, u148, u149, u150, u151, u152, u153, u154, u155, u156, u157, u158, u159, u160, u161, u162, u163, u164, u165, u166, u167, u168, u169, u170, u171, u172, u173, u174, u175, u176, u177, u178, u179, u180, u181, u182, u183, u184, u185, u186, u187, u188, u189, u190, u191, u192, u193, u194, u195, u196, u197, u198, u199, u200, u201, u202, u203, u204, u205, u206, u207, u208, u209, u210, u211, u212, u213, u214, u215, u216, u217, u218, u219, u220, u221, u222, u223, u224, u225, u226, u227, u228, u229, u230, u231, u232, u233, u234, u235, u236, u237, u238, u239, u240, u241, u242, u243, u244, u245, u246, u247, u248, u249, u250, u251, u252, u253, u254, u255, u256, u257, u258, u259, u260, u261, u262, u263, u264, u265, u266, u267, u268, u269, u270, u271, u272, u273, u274, u275, u276, u277, u278, u279, u280, u281, u282, u283, u284, u285, u286, u287, u288, u289, u290, u291, u292, u293, u294, u295, u296, u297, u298, u299, u300, u301, u302, u303, u304, u305, u306, u307, u308, u309], []⟩ w := by
  conv => arg 2; whnf
  go_wp2_with fail
  refine (newNat_any _).mono ?_
  rintro e w1 ⟨p23, l23, rfl, hd, hp23, hl23, h1⟩
  have oP := HI.out.P.old hl23; have oQ := HI.out.Q.old hl23
  have HOP : Hid (Z.P.l ≠ l23) := Lib.hid oP.2.2.1; have HOQ : Hid (Z.Q.l ≠ l23) := Lib.hid oQ.2.2.1
  have HB := HI; have HKB := HK
  have HT := Lib.hid h1
  have Hp23 := Lib.hid hp23; have Hl23 := Lib.hid hl23
  replace HI := Lib.hid (HI.out.kept h1); replace HK := Lib.hid (HK.out.trans h1 (by simp))
  clear h1 oP oQ hp23 hl23
  go_wp2_with fail
  conv => arg 2; whnf
  go_wp2_with fail
  refine (newNat_any _).mono ?_
  rintro e w2 ⟨p24, l24, rfl, hx, hp24, hl24, h1⟩
  have o1 := HI.out.P.old hl24; have o2 := hd.old hp24; have o3 := hd.old hl24
  go_wp2_with fail
  refine (ma_Nat Z.Q _ (HI.out.Q.kept h1)).mono ?_
  rintro e w3 ⟨pa, la, rfl, hy, hpa, hla, h2⟩
  have h12 := h1.trans1 h2
  go_wp2_with fail
  refine (ma_Bytes pa la 32 Z.Q.v Z.Q _ hy (HI.out.Q.kept h12) (Nat.le_refl _)).mono ?_
  rintro e w4 ⟨⟨bb, O, rfl, _, hO, hOv⟩, h3⟩
  have h13 := h12.trans1 h3
  have HOv := Lib.hid hOv
  clear hOv
  have hbl := blen_le_n HI.out.Q.lt
  have hn31 := HI.out.Q.n31
  go_wp2_with fail
  refine (ma_SetBytes p24 l24 0 0 Z.P _ _ _ O _ ((hx.kept h2).kept h3) (HI.out.P.kept h13) hO o1.2.2.1 (by omega)).mono ?_
  rintro e w5 ⟨hR, h4⟩
  rw [HOv.out] at hR
  have hs := h13.two hp24 hl24 h4
  replace hd := hd.kept hs
  replace HT := Lib.hid (HT.out.trans1 hs)
  have H24 : Hid (p23 ≠ p24 ∧ p23 ≠ l24 ∧ l23 ≠ p24 ∧ l23 ≠ l24) := Lib.hid ⟨o2.1, o3.1, o2.2, o3.2⟩
  replace HI := Lib.hid (HI.out.kept hs); replace HK := Lib.hid (HK.out.trans hs (by simp))
  clear hs
  clear hx hy h1 h2 h3 h4 h12 h13 hp24 hl24 hpa hla hO HOv hbl hn31 o1 o2 o3
  rcases hR with ⟨_, hlt, rfl, hx⟩ | ⟨hno, t, x, rfl⟩
  · have HLT := Lib.hid hlt
    have HNE : Hid (Z.P.v ≠ Z.Q.v) := Lib.hid (by omega)
    clear hlt
    go_wp2_with fail
    refine (ma_ExpandFor p23 l23 0 0 Z.P _ hd HI.out.P (by omega)).mono ?_
    rintro e w6 ⟨rfl, hd, h1⟩
    replace hx := hx.keeps h1 (by have := H24.out; simp; exact ⟨fun h => this.1 h.symm, fun h => this.2.2.1 h.symm⟩) (by have := H24.out; simp; exact ⟨fun h => this.2.1 h.symm, fun h => this.2.2.2 h.symm⟩)
    have hk1 := HT.out.two Hp23.out Hl23.out h1
    have hg := HB.out.Q.gt; have hg2 := HB.out.P.gt
    go_wp2_with fail
    refine (ma_Sub0 p23 l23 32 p24 l24 32 Z.Q.v Z.P _ hd hx (HB.out.P.kept hk1) HOP.out (by omega) (by have := HLT.out; omega)).mono ?_
    rintro e w7 ⟨rfl, hd, h2⟩
    have hk2 := hk1.one Hl23.out h2
    replace HI := Lib.hid (HB.out.kept hk2); replace HK := Lib.hid (HKB.out.trans hk2 (by simp))
    clear h1 h2 hk1 hk2 hx HB HKB HT hg hg2
    have HD := Lib.hid hd
    clear hd
    have hbN := blen_le_n HI.out.N.lt
    have hnN := HI.out.N.n31
    have hb23 := blen_le_n HD.out.lt
    have hn23 := HI.out.P.n31
    go_wp2_with fail
    refine (nat_BitLen p23 l23 _ 32 _ _ HD.out (by omega)).mono ?_
    rintro e wx ⟨rfl, rfl⟩
    go_wp2_with fail
    refine (ma_BitLen Z.N _ HI.out.N).mono ?_
    rintro e wx ⟨rfl, rfl⟩
    by_cases hfar : (blen (Z.P.v - Z.Q.v) : Int) ≤ (blen Z.N.v : Int) / 2 - 100
    · have HFAR : Hid (blen (Z.P.v - Z.Q.v) + 100 ≤ blen Z.N.v / 2) := Lib.hid (by omega)
      go_wp2_with fail
      refine (errors_New _ _).mono ?_
      rintro e wz ⟨⟨bz, rfl, _, _⟩, hz⟩
      have HIz := Lib.hid (HI.out.kept hz); have HKz := Lib.hid (HK.out.trans hz (by simp))
      clear hz
      go_wp2
      go_ret
      exact ⟨⟨_, rfl, .inr ⟨fun h => (by have h1 := h.far; have h2 := HFAR.out; simp only [show Z.Q.v - Z.P.v = 0 by (have := HLT.out; omega), Nat.add_zero] at h1; omega), _, _, rfl⟩⟩, HIz.out, HKz.out⟩
    · have HFAR : Hid (blen Z.N.v / 2 < blen (Z.P.v - Z.Q.v) + 100) := Lib.hid (by omega)
      have c2 := HI.out.c2
      go_wp2_with fail
      refine (nat_BitLen Z.d Z.ld _ 32 _ _ HI.out.d (by omega)).mono ?_
      rintro e wx ⟨rfl, rfl⟩
      go_wp2_with fail
      refine (ma_BitLen Z.N _ HI.out.N).mono ?_
      rintro e wx ⟨rfl, rfl⟩
      clear c2
      by_cases hdn : (blen Z.D : Int) ≤ (blen Z.N.v : Int) / 2
      · have HDN : Hid (blen Z.D ≤ blen Z.N.v / 2) := Lib.hid (by omega)
        go_wp2_with fail
        refine (errors_New _ _).mono ?_
        rintro e wz ⟨⟨bz, rfl, _, _⟩, hz⟩
        have HIz := Lib.hid (HI.out.kept hz); have HKz := Lib.hid (HK.out.trans hz (by simp))
        clear hz
        go_wp2
        go_ret
        exact ⟨⟨_, rfl, .inr ⟨fun h => (by have h1 := h.dn; have h2 := HDN.out; omega), _, _, rfl⟩⟩, HIz.out, HKz.out⟩
      · have HDN : Hid (blen Z.N.v / 2 < blen Z.D) := Lib.hid (by omega)
        go_wp2
        go_ret
        exact ⟨⟨_, rfl, .inl ⟨HG.out (by have := HNE.out; omega) (by rw [show Z.Q.v - Z.P.v = 0 by (have := HLT.out; omega), Nat.add_zero]; exact HFAR.out) HDN.out, rfl⟩⟩, HI.out, HK.out⟩
  · have HLE : Hid (¬ Z.Q.v < Z.P.v) := Lib.hid fun h => hno ⟨fit_of_lt h HI.out.P.lt, h⟩
    clear hno H24
    go_wp2_with fail
    refine (newNat_any _).mono ?_
    rintro e w2 ⟨p24, l24, rfl, hx, hp24, hl24, h1⟩
    have o1 := HI.out.Q.old hl24; have o2 := hd.old hp24; have o3 := hd.old hl24
    go_wp2_with fail
    refine (ma_Nat Z.P _ (HI.out.P.kept h1)).mono ?_
    rintro e w3 ⟨pa, la, rfl, hy, hpa, hla, h2⟩
    have h12 := h1.trans1 h2
    go_wp2_with fail
    refine (ma_Bytes pa la 32 Z.P.v Z.P _ hy (HI.out.P.kept h12) (Nat.le_refl _)).mono ?_
    rintro e w4 ⟨⟨bb, O, rfl, _, hO, hOv⟩, h3⟩
    have h13 := h12.trans1 h3
    have HOv := Lib.hid hOv
    clear hOv
    have hbl := blen_le_n HI.out.P.lt
    have hn31 := HI.out.P.n31
    go_wp2_with fail
    refine (ma_SetBytes p24 l24 0 0 Z.Q _ _ _ O _ ((hx.kept h2).kept h3) (HI.out.Q.kept h13) hO o1.2.2.1 (by omega)).mono ?_
    rintro e w5 ⟨hR, h4⟩
    rw [HOv.out] at hR
    have hs := h13.two hp24 hl24 h4
    replace hd := hd.kept hs
    replace HT := Lib.hid (HT.out.trans1 hs)
    have H24 : Hid (p23 ≠ p24 ∧ p23 ≠ l24 ∧ l23 ≠ p24 ∧ l23 ≠ l24) := Lib.hid ⟨o2.1, o3.1, o2.2, o3.2⟩
    replace HI := Lib.hid (HI.out.kept hs); replace HK := Lib.hid (HK.out.trans hs (by simp))
    clear hs
    clear hx hy h1 h2 h3 h4 h12 h13 hp24 hl24 hpa hla hO HOv hbl hn31 o1 o2 o3
    rcases hR with ⟨_, hlt, rfl, hx⟩ | ⟨hno, t, x, rfl⟩
    · have HLT := Lib.hid hlt
      have HNE : Hid (Z.P.v ≠ Z.Q.v) := Lib.hid (by omega)
      clear hlt
      go_wp2_with fail
      refine (ma_ExpandFor p23 l23 0 0 Z.Q _ hd HI.out.Q (by omega)).mono ?_
      rintro e w6 ⟨rfl, hd, h1⟩
      replace hx := hx.keeps h1 (by have := H24.out; simp; exact ⟨fun h => this.1 h.symm, fun h => this.2.2.1 h.symm⟩) (by have := H24.out; simp; exact ⟨fun h => this.2.1 h.symm, fun h => this.2.2.2 h.symm⟩)
      have hk1 := HT.out.two Hp23.out Hl23.out h1
      have hg := HB.out.Q.gt; have hg2 := HB.out.P.gt
      go_wp2_with fail
      refine (ma_Sub0 p23 l23 32 p24 l24 32 Z.P.v Z.Q _ hd hx (HB.out.Q.kept hk1) HOQ.out (by omega) (by have := HLT.out; omega)).mono ?_
      rintro e w7 ⟨rfl, hd, h2⟩
      have hk2 := hk1.one Hl23.out h2
      replace HI := Lib.hid (HB.out.kept hk2); replace HK := Lib.hid (HKB.out.trans hk2 (by simp))
      clear h1 h2 hk1 hk2 hx HB HKB HT hg hg2
      have HD := Lib.hid hd
      clear hd
      have hbN := blen_le_n HI.out.N.lt
      have hnN := HI.out.N.n31
      have hb23 := blen_le_n HD.out.lt
      have hn23 := HI.out.Q.n31
      go_wp2_with fail
      refine (nat_BitLen p23 l23 _ 32 _ _ HD.out (by omega)).mono ?_
      rintro e wx ⟨rfl, rfl⟩
      go_wp2_with fail
      refine (ma_BitLen Z.N _ HI.out.N).mono ?_
      rintro e wx ⟨rfl, rfl⟩
      by_cases hfar : (blen (Z.Q.v - Z.P.v) : Int) ≤ (blen Z.N.v : Int) / 2 - 100
      · have HFAR : Hid (blen (Z.Q.v - Z.P.v) + 100 ≤ blen Z.N.v / 2) := Lib.hid (by omega)
        go_wp2_with fail
        refine (errors_New _ _).mono ?_
        rintro e wz ⟨⟨bz, rfl, _, _⟩, hz⟩
        have HIz := Lib.hid (HI.out.kept hz); have HKz := Lib.hid (HK.out.trans hz (by simp))
        clear hz
        go_wp2
        go_ret
        exact ⟨⟨_, rfl, .inr ⟨fun h => (by have h1 := h.far; have h2 := HFAR.out; simp only [show Z.P.v - Z.Q.v = 0 by (have := HLT.out; omega), Nat.zero_add] at h1; omega), _, _, rfl⟩⟩, HIz.out, HKz.out⟩
      · have HFAR : Hid (blen Z.N.v / 2 < blen (Z.Q.v - Z.P.v) + 100) := Lib.hid (by omega)
        have c2 := HI.out.c2
        go_wp2_with fail
        refine (nat_BitLen Z.d Z.ld _ 32 _ _ HI.out.d (by omega)).mono ?_
        rintro e wx ⟨rfl, rfl⟩
        go_wp2_with fail
        refine (ma_BitLen Z.N _ HI.out.N).mono ?_
        rintro e wx ⟨rfl, rfl⟩
        clear c2
        by_cases hdn : (blen Z.D : Int) ≤ (blen Z.N.v : Int) / 2
        · have HDN : Hid (blen Z.D ≤ blen Z.N.v / 2) := Lib.hid (by omega)
          go_wp2_with fail
          refine (errors_New _ _).mono ?_
          rintro e wz ⟨⟨bz, rfl, _, _⟩, hz⟩
          have HIz := Lib.hid (HI.out.kept hz); have HKz := Lib.hid (HK.out.trans hz (by simp))
          clear hz
          go_wp2
          go_ret
          exact ⟨⟨_, rfl, .inr ⟨fun h => (by have h1 := h.dn; have h2 := HDN.out; omega), _, _, rfl⟩⟩, HIz.out, HKz.out⟩
        · have HDN : Hid (blen Z.N.v / 2 < blen Z.D) := Lib.hid (by omega)
          go_wp2
          go_ret
          exact ⟨⟨_, rfl, .inl ⟨HG.out (by have := HNE.out; omega) (by rw [show Z.P.v - Z.Q.v = 0 by (have := HLT.out; omega), Nat.zero_add]; exact HFAR.out) HDN.out, rfl⟩⟩, HI.out, HK.out⟩
    · have HLE2 : Hid (¬ Z.P.v < Z.Q.v) := Lib.hid fun h => hno ⟨fit_of_lt h HI.out.Q.lt, h⟩
      clear hno H24 hd
      go_wp2_with fail
      refine (errors_New _ _).mono ?_
      rintro e wz ⟨⟨bz, rfl, _, _⟩, hz⟩
      have HIz := Lib.hid (HI.out.kept hz); have HKz := Lib.hid (HK.out.trans hz (by simp))
      clear hz
      go_wp2
      go_ret
      exact ⟨⟨_, rfl, .inr ⟨fun h => (by have h1 := h.ne; have h2 := HLE.out; have h3 := HLE2.out; omega), _, _, rfl⟩⟩, HIz.out, HKz.out⟩

end Go.Proofs.YtnfjmngchapdnaaGreatDoor

/- rsa: checkPrivateKey, from its region 51 on. -/
namespace Go.Proofs.YtnfjmngchapdnaaGreatDoor
open Go.RowKit

set_option maxRecDepth 1000000 in
set_option maxHeartbeats 4000000 in
theorem chk51 {Kk : Act → World → Prop} (Z : PK) (w0 : World) {u1 u2 u3 u4 u8 u9 u10 u11 u12 u13 u15 u17 u20 u21 u22 u23 u24 u25 u26 u27 u28 u29 u30 u31 u32 u33 u34 u35 u36 u37 u38 u39 u40 u41 u42 u43 u44 u45 u46 u47 u48 u49 u50 u51 u52 u53 u54 u55 u56 u57 u58 u59 u60 u61 u62 u63 u64 u65 u66 u67 u68 u69 u70 u71 u72 u73 u74 u75 u76 u77 u78 u79 u80 u81 u82 u83 u84 u85 u86 u87 u88 u89 u90 u91 u92 u93 u94 u95 u96 u97 u98 u99 u100 u101 u102 u103 u104 u105 u106 u107 u108 u109 u110 u111 u112 u113 u114 u115 u116 u117 u118 u119 u120 u121 u122 u123 u124 u125 u126 u127 u128 u129 u130 u131 u132 u133 u134 u135 u136 u137 u138 u139 u140 u141 u142 u143 u144 u145 u146 u147 u148 u149 u150 u151 u152 u153 u154 u155 u156 u157 u158 u159 u160 u161 u162 u163 u164 u165 u166 u167 u168 u169 u170 u171 u172 u173 u174 u175 u176 u177 u178 u179 u180 u181 u182 u183 u184 u185 u186 u187 u188 u189 u190 u191 u192 u193 u194 u195 u196 u197 u198 u199 u200 u201 u202 u203 u204 u205 u206 u207 u208 u209 u210 u211 u212 u213 u214 u215 u216 u217 u218 u219 u220 u221 u222 u223 u224 u225 u226 u227 u228 u229 u230 u231 u232 u233 u234 u235 u236 u237 u238 u239 u240 u241 u242 u243 u244 u245 u246 u247 u248 u249 u250 u251 u252 u253 u254 u255 u256 u257 u258 u259 u260 u261 u262 u263 u264 u265 u266 u267 u268 u269 u270 u271 u272 u273 u274 u275 u276 u277 u278 u279 u280 u281 u282 u283 u284 u285 u286 u287 u288 u289 u290 u291 u292 u293 u294 u295 u296 u297 u298 u299 u300 u301 u302 u303 u304 u305 u306 u307 u308 u309 : Value}
    (w : World) (HI : Hid (Z.is w)) (HK : Hid (Keeps [Z.pk] w0 w))
    (a14 a18 : MA) (p16 l16 p19 l19 : Nat) (HAa14 : Hid (a14.is w)) (HAa18 : Hid (a18.is w)) (HAV14 : Hid (a14.v = Z.P.v - 1)) (HAV18 : Hid (a18.v = Z.Q.v - 1)) (HX16 : Hid (NatV w p16 l16 a14.n 32 (bval Z.LP))) (HX19 : Hid (NatV w p19 l19 a18.n 32 (bval Z.LQ)))
    (HG : Hid (Z.D % (Z.P.v - 1) = bval Z.LP → Z.D % (Z.Q.v - 1) = bval Z.LQ → Z.P.v ≠ Z.Q.v → blen Z.N.v / 2 < blen (Z.P.v - Z.Q.v + (Z.Q.v - Z.P.v)) + 100 → blen Z.N.v / 2 < blen Z.D → PrivOk Z))
    (hZ : ∀ a w, Code.wp Tryz.prog (tail51) (bodyPost Tryz.prog Tryz.f54 (chkPost Z w0)) a w → Kk a w) :
    Code.wp Tryz.prog (reg51) (Exit.then Kk (bodyPost Tryz.prog Tryz.f54 (chkPost Z w0))) ⟨#[.pointer (some ⟨Z.pk, 0, none⟩), u1, u2, u3, u4, .pointer (some ⟨Z.N.m, 0, none⟩), .pointer (some ⟨Z.P.m, 0, none⟩), .pointer (some ⟨Z.Q.m, 0, none⟩), u8, u9, u10, u11, u12, u13, .pointer (some ⟨a14.m, 0, none⟩), u15, .pointer (some ⟨p16, 0, none⟩), u17, .pointer (some ⟨a18.m, 0, none⟩), .pointer (some ⟨p19, 0, none⟩), u20, u21, u22, u23, u24, u25, u26, u27, u28, u29, u30, u31, u32, u33, u34, u35, u36, u37, u38, u39, u40, u41, u42, u43, u44, u45, u46, u47, u48, u49, u50, u51, u52, u53, u54, u55, u56, u57, u58, u59, u60, u61, u62, u63, u64, u65, u66, u67, u68, u69, u70, u71, u72, u73, u74, u75, u76, u77, u78, u79, u80, u81, u82, u83, u84, u85, u86, u87, u88, u89, u90, u91, u92, u93, u94, u95, u96, u97, u98, u99, u100, u101, u102, u103, u104, u105, u106, u107, u108, u109, u110, u111, u112, u113, u114, u115, u116, u117, u118, u119, u120, u121, u122, u123, u124, u125, u126, u127, u128, u129, u130, u131, u132, u133, u134, u135, u136, u137, u138, u139, u140, u141, u142, u143, u144, u145, u146, u147, u148, u149, u150, u151, u152, u153, u154, u155, u156, u157, u158, u159, u160, u161, u162, u163, u164, u165, u166, u167, u168, u169, u170, u171, u172, u173, u174, u175, u176, u177, u178, u179, u180, u181, u182, u183, u184, u185, u186, u187, u188, u189, u190, u191, u192, u193, u194, u195, u196, u197, u198, u199, u200, u201, u202, u203, u204, u205, u206, u207, u208, u209, u210, u211, u212, u213, u214, u215, u216, u217, u218, u219, u220, u221, u222, u223, u224, u225, u226, u227, u228, u229, u230, u231, u232, u233, u234, u235, u236, u237, u238, u239, u240, u241, u242, u243, u244, u245, u246, u247, u248, u249, u250, u251, u252, u253, u254, u255, u256, u257, u258, u259, u260, u261, u262, u263, u264, u265, u266, u267, u268, u269, u270, u271, u272, u273, u274, u275, u276, u277, u278, u279, u280, u281, u282, u283, u284, u285, u286, u287, u288, u289, u290, u291, u292, u293, u294, u295, u296, u297, u298, u299, u300, u301, u302, u303, u304, u305, u306, u307, u308, u309], []⟩ w := by
  conv => arg 2; whnf
  have hnN := HI.out.N.n31
  have hn14 := HAa14.out.n31
  have hn18 := HAa18.out.n31
  have c2 := HI.out.c2
  refine wp_region_txt [2,0,0,0,0,0,2,0] (fun w' => w'.cell? ⟨Z.pk, 2, none⟩ = some (.pointer (some ⟨Z.d, 0, none⟩))) (by kernel_rfl) (by kernel_rfl) c2 ?_
  simp only [withMarks]
  repeat (first
    | ((with_reducible refine txt_v (v := ?_) ?_ ?_); (any_goals ((with_reducible refine Yl.mk ?_ ?_); rfl; intro w hSw; (go_simp <;> (try go_bits) <;> (repeat (first | rw [if_pos (by omega)] | rw [if_neg (by omega)])) <;> with_reducible rfl))); try simp only [Act.put, List.setIfInBounds_toArray, List.set_cons_zero, List.set_cons_succ])
    | ((with_reducible refine txt_u ?_ ?_); rfl; try simp only [Act.put, List.setIfInBounds_toArray, List.set_cons_zero, List.set_cons_succ])
    | ((with_reducible refine txt_l (v := ?_) ?_ ?_); (any_goals ((with_reducible refine Reads.mk ?_ ?_); rfl; (go_simp <;> (try go_bits) <;> (repeat (first | rw [if_pos (by omega)] | rw [if_neg (by omega)])) <;> with_reducible rfl))); try simp only [Act.put, List.setIfInBounds_toArray, List.set_cons_zero, List.set_cons_succ])
    | ((with_reducible refine txt_e ?_ ?_); rfl; intro K hK; go_simp; (first | (refine hK _ _ (by first | exact (HI.out.drew.kept (h1.two hp hl h2)).c2 | exact (HI.out.drew.kept h1).c2 | exact c2) ?_) | ((first | (go_at_call 70; refine (ma_Mod px lx 0 0 Z.d Z.ld _ 32 Z.D a14 _ hx (HI.out.drew.d.kept h1) (HAa14.out.drew.kept h1) (HAa14.out.drew.old hl).2.2.1 (HI.out.drew.d.old hl).2 (Ne.symm (HI.out.drew.d.old hp).1) (Ne.symm (HAa14.out.drew.old hp).2.1) (by omega)).mono ?_; rintro e2 w2 ⟨rfl, hx2, h2⟩) | (go_at_call 51; refine (newNat_any _).mono ?_; rintro e1 w1 ⟨px, lx, rfl, hx, hp, hl, h1⟩)); dsimp only; refine hK _ _ (by first | exact (HI.out.drew.kept (h1.two hp hl h2)).c2 | exact (HI.out.drew.kept h1).c2 | exact c2) ?_)); clear hK K; try simp only [Act.put, List.setIfInBounds_toArray, List.set_cons_zero, List.set_cons_succ]))
  refine txt_nil ?_
  have hs := (Keeps.refl [] w).drew.trans1 (h1.two hp hl h2)
  have HY := Lib.hid hx2
  replace HI := Lib.hid (HI.out.kept hs); replace HK := Lib.hid (HK.out.trans hs (by simp))
  replace HAa14 := Lib.hid (HAa14.out.kept hs)
  replace HAa18 := Lib.hid (HAa18.out.kept hs)
  replace HX16 := Lib.hid (HX16.out.kept hs)
  replace HX19 := Lib.hid (HX19.out.kept hs)
  clear hs
  clear c2 h1 h2 hp hl hx hx2
  go_wp2_with fail
  conv => arg 2; whnf
  go_wp2_with fail
  refine (nat_Equal px lx p16 l16 _ 32 32 _ _ _ HY.out HX16.out (by omega)).mono ?_
  rintro e w3 ⟨r, rfl, hr, hs⟩
  replace HI := Lib.hid (HI.out.kept hs); replace HK := Lib.hid (HK.out.trans hs (by simp))
  replace HAa14 := Lib.hid (HAa14.out.kept hs)
  replace HAa18 := Lib.hid (HAa18.out.kept hs)
  replace HX16 := Lib.hid (HX16.out.kept hs)
  replace HX19 := Lib.hid (HX19.out.kept hs)
  clear hs
  rcases hr.case with ⟨rfl, hq⟩ | ⟨rfl, hq⟩
  · have HQ := Lib.hid hq
    clear hq hr HY
    go_wp2_with fail
    refine (errors_New _ _).mono ?_
    rintro e wz ⟨⟨bz, rfl, _, _⟩, hz⟩
    have HIz := Lib.hid (HI.out.kept hz); have HKz := Lib.hid (HK.out.trans hz (by simp))
    clear hz
    go_wp2
    go_ret
    exact ⟨⟨_, rfl, .inr ⟨fun h => HQ.out (by rw [HAV14.out]; exact h.d1), _, _, rfl⟩⟩, HIz.out, HKz.out⟩
  have HD1 := Lib.hid hq
  clear hq hr HY
  obtain ⟨w, rfl⟩ : ∃ w', w' = w3 := ⟨_, rfl⟩
  have c2 := HI.out.c2
  go_wp2_with fail
  refine wp_region_txt [2,0,0,0,0,0,2,0] (fun w' => w'.cell? ⟨Z.pk, 2, none⟩ = some (.pointer (some ⟨Z.d, 0, none⟩))) (by kernel_rfl) (by kernel_rfl) c2 ?_
  simp only [withMarks]
  repeat (first
    | ((with_reducible refine txt_v (v := ?_) ?_ ?_); (any_goals ((with_reducible refine Yl.mk ?_ ?_); rfl; intro w hSw; (go_simp <;> (try go_bits) <;> (repeat (first | rw [if_pos (by omega)] | rw [if_neg (by omega)])) <;> with_reducible rfl))); try simp only [Act.put, List.setIfInBounds_toArray, List.set_cons_zero, List.set_cons_succ])
    | ((with_reducible refine txt_u ?_ ?_); rfl; try simp only [Act.put, List.setIfInBounds_toArray, List.set_cons_zero, List.set_cons_succ])
    | ((with_reducible refine txt_l (v := ?_) ?_ ?_); (any_goals ((with_reducible refine Reads.mk ?_ ?_); rfl; (go_simp <;> (try go_bits) <;> (repeat (first | rw [if_pos (by omega)] | rw [if_neg (by omega)])) <;> with_reducible rfl))); try simp only [Act.put, List.setIfInBounds_toArray, List.set_cons_zero, List.set_cons_succ])
    | ((with_reducible refine txt_e ?_ ?_); rfl; intro K hK; go_simp; (first | (refine hK _ _ (by first | exact (HI.out.drew.kept (h1.two hp hl h2)).c2 | exact (HI.out.drew.kept h1).c2 | exact c2) ?_) | ((first | (go_at_call 70; refine (ma_Mod px lx 0 0 Z.d Z.ld _ 32 Z.D a18 _ hx (HI.out.drew.d.kept h1) (HAa18.out.drew.kept h1) (HAa18.out.drew.old hl).2.2.1 (HI.out.drew.d.old hl).2 (Ne.symm (HI.out.drew.d.old hp).1) (Ne.symm (HAa18.out.drew.old hp).2.1) (by omega)).mono ?_; rintro e2 w2 ⟨rfl, hx2, h2⟩) | (go_at_call 51; refine (newNat_any _).mono ?_; rintro e1 w1 ⟨px, lx, rfl, hx, hp, hl, h1⟩)); dsimp only; refine hK _ _ (by first | exact (HI.out.drew.kept (h1.two hp hl h2)).c2 | exact (HI.out.drew.kept h1).c2 | exact c2) ?_)); clear hK K; try simp only [Act.put, List.setIfInBounds_toArray, List.set_cons_zero, List.set_cons_succ]))
  refine txt_nil ?_
  have hs := (Keeps.refl [] w).drew.trans1 (h1.two hp hl h2)
  have HY := Lib.hid hx2
  replace HI := Lib.hid (HI.out.kept hs); replace HK := Lib.hid (HK.out.trans hs (by simp))
  replace HAa18 := Lib.hid (HAa18.out.kept hs)
  replace HX19 := Lib.hid (HX19.out.kept hs)
  clear hs
  clear c2 h1 h2 hp hl hx hx2
  go_wp2_with fail
  refine (nat_Equal px lx p19 l19 _ 32 32 _ _ _ HY.out HX19.out (by omega)).mono ?_
  rintro e w3 ⟨r, rfl, hr, hs⟩
  replace HI := Lib.hid (HI.out.kept hs); replace HK := Lib.hid (HK.out.trans hs (by simp))
  replace HAa18 := Lib.hid (HAa18.out.kept hs)
  replace HX19 := Lib.hid (HX19.out.kept hs)
  clear hs
  rcases hr.case with ⟨rfl, hq⟩ | ⟨rfl, hq⟩
  · have HQ := Lib.hid hq
    clear hq hr HY
    go_wp2_with fail
    refine (errors_New _ _).mono ?_
    rintro e wz ⟨⟨bz, rfl, _, _⟩, hz⟩
    have HIz := Lib.hid (HI.out.kept hz); have HKz := Lib.hid (HK.out.trans hz (by simp))
    clear hz
    go_wp2
    go_ret
    exact ⟨⟨_, rfl, .inr ⟨fun h => HQ.out (by rw [HAV18.out]; exact h.d2), _, _, rfl⟩⟩, HIz.out, HKz.out⟩
  have HD2 := Lib.hid hq
  clear hq hr HY
  go_upto_region 57 with fail
  exact chk57 Z w0 w3 HI HK (Lib.hid (HG.out (by rw [← HAV14.out]; exact HD1.out) (by rw [← HAV18.out]; exact HD2.out))) (by assumption)

end Go.Proofs.YtnfjmngchapdnaaGreatDoor
