import Derived.Test.YtnfjmngchapdnaaGreatDoorMChkD
/- rsa: checkPrivateKey, from its region 46 on. -/
namespace Go.Proofs.YtnfjmngchapdnaaGreatDoor
open Go.RowKit

set_option maxRecDepth 1000000 in
set_option maxHeartbeats 4000000 in
theorem chk46 {Kk : Act → World → Prop} (Z : PK) (w0 : World) {u1 u2 u3 u4 u8 u9 u10 u11 u12 u13 u15 u17 u20 u21 u22 u23 u24 u25 u26 u27 u28 u29 u30 u31 u32 u33 u34 u35 u36 u37 u38 u39 u40 u41 u42 u43 u44 u45 u46 u47 u48 u49 u50 u51 u52 u53 u54 u55 u56 u57 u58 u59 u60 u61 u62 u63 u64 u65 u66 u67 u68 u69 u70 u71 u72 u73 u74 u75 u76 u77 u78 u79 u80 u81 u82 u83 u84 u85 u86 u87 u88 u89 u90 u91 u92 u93 u94 u95 u96 u97 u98 u99 u100 u101 u102 u103 u104 u105 u106 u107 u108 u109 u110 u111 u112 u113 u114 u115 u116 u117 u118 u119 u120 u121 u122 u123 u124 u125 u126 u127 u128 u129 u130 u131 u132 u133 u134 u135 u136 u137 u138 u139 u140 u141 u142 u143 u144 u145 u146 u147 u148 u149 u150 u151 u152 u153 u154 u155 u156 u157 u158 u159 u160 u161 u162 u163 u164 u165 u166 u167 u168 u169 u170 u171 u172 u173 u174 u175 u176 u177 u178 u179 u180 u181 u182 u183 u184 u185 u186 u187 u188 u189 u190 u191 u192 u193 u194 u195 u196 u197 u198 u199 u200 u201 u202 u203 u204 u205 u206 u207 u208 u209 u210 u211 u212 u213 u214 u215 u216 u217 u218 u219 u220 u221 u222 u223 u224 u225 u226 u227 u228 u229 u230 u231 u232 u233 u234 u235 u236 u237 u238 u239 u240 u241 u242 u243 u244 u245 u246 u247 u248 u249 u250 u251 u252 u253 u254 u255 u256 u257 u258 u259 u260 u261 u262 u263 u264 u265 u266 u267 u268 u269 u270 u271 u272 u273 u274 u275 u276 u277 u278 u279 u280 u281 u282 u283 u284 u285 u286 u287 u288 u289 u290 u291 u292 u293 u294 u295 u296 u297 u298 u299 u300 u301 u302 u303 u304 u305 u306 u307 u308 u309 : Value}
    (w : World) (HI : Hid (Z.is w)) (HK : Hid (Keeps [Z.pk] w0 w))
    (a14 a18 : MA) (p16 l16 p19 l19 : Nat) (HAa14 : Hid (a14.is w)) (HAa18 : Hid (a18.is w)) (HAV14 : Hid (a14.v = Z.P.v - 1)) (HAV18 : Hid (a18.v = Z.Q.v - 1)) (HX16 : Hid (NatV w p16 l16 a14.n 32 (bval Z.LP))) (HX19 : Hid (NatV w p19 l19 a18.n 32 (bval Z.LQ)))
    (HG : Hid (Z.Q.v % Z.P.v * Z.QI % Z.P.v = 1 → Z.D % (Z.P.v - 1) = bval Z.LP → Z.D % (Z.Q.v - 1) = bval Z.LQ → Z.P.v ≠ Z.Q.v → blen Z.N.v / 2 < blen (Z.P.v - Z.Q.v + (Z.Q.v - Z.P.v)) + 100 → blen Z.N.v / 2 < blen Z.D → PrivOk Z))
    (hZ : ∀ a w, Code.wp Tryz.prog (tail46) (bodyPost Tryz.prog Tryz.f54 (chkPost Z w0)) a w → Kk a w) :
    Code.wp Tryz.prog (reg46) (Exit.then Kk (bodyPost Tryz.prog Tryz.f54 (chkPost Z w0))) ⟨#[.pointer (some ⟨Z.pk, 0, none⟩), u1, u2, u3, u4, .pointer (some ⟨Z.N.m, 0, none⟩), .pointer (some ⟨Z.P.m, 0, none⟩), .pointer (some ⟨Z.Q.m, 0, none⟩), u8, u9, u10, u11, u12, u13, .pointer (some ⟨a14.m, 0, none⟩), u15, .pointer (some ⟨p16, 0, none⟩), u17, .pointer (some ⟨a18.m, 0, none⟩), .pointer (some ⟨p19, 0, none⟩), u20, u21, u22, u23, u24, u25, u26, u27, u28, u29, u30, u31, u32, u33, u34, u35, u36, u37, u38, u39, u40, u41, u42, u43, u44, u45, u46, u47, u48, u49, u50, u51, u52, u53, u54, u55, u56, u57, u58, u59, u60, u61, u62, u63, u64, u65, u66, u67, u68, u69, u70, u71, u72, u73, u74, u75, u76, u77, u78, u79, u80, u81, u82, u83, u84, u85, u86, u87, u88, u89, u90, u91, u92, u93, u94, u95, u96, u97, u98, u99, u100, u101, u102, u103, u104, u105, u106, u107, u108, u109, u110, u111, u112, u113, u114, u115, u116, u117, u118, u119, u120, u121, u122, u123, u124, u125, u126, u127, u128, u129, u130, u131, u132, u133, u134, u135, u136, u137, u138, u139, u140, u141, u142, u143, u144, u145, u146, u147, u148, u149, u150, u151, u152, u153, u154, u155, u156, u157, u158, u159, u160, u161, u162, u163, u164, u165, u166, u167, u168, u169, u170, u171, u172, u173, u174, u175, u176, u177, u178, u179, u180, u181, u182, u183, u184, u185, u186, u187, u188, u189, u190, u191, u192, u193, u194, u195, u196, u197, u198, u199, u200, u201, u202, u203, u204, u205, u206, u207, u208, u209, u210, u211, u212, u213, u214, u215, u216, u217, u218, u219, u220, u221, u222, u223, u224, u225, u226, u227, u228, u229, u230, u231, u232, u233, u234, u235, u236, u237, u238, u239, u240, u241, u242, u243, u244, u245, u246, u247, u248, u249, u250, u251, u252, u253, u254, u255, u256, u257, u258, u259, u260, u261, u262, u263, u264, u265, u266, u267, u268, u269, u270, u271, u272, u273, u274, u275, u276, u277, u278, u279, u280, u281, u282, u283, u284, u285, u286, u287, u288, u289, u290, u291, u292, u293, u294, u295, u296, u297, u298, u299, u300, u301, u302, u303, u304, u305, u306, u307, u308, u309], []⟩ w := by
  conv => arg 2; whnf
  have HB := HI; have HKB := HK
  have hnN := HI.out.N.n31
  have hnP := HI.out.P.n31
  go_wp2_with fail
  refine (newNat_any _).mono ?_
  rintro e wa ⟨p20, l20, rfl, hx, hp, hl, h1⟩
  have oP := HI.out.P.old hl
  go_wp2_with fail
  refine (ma_Nat Z.Q _ (HI.out.Q.kept h1)).mono ?_
  rintro e wc ⟨pa, la, rfl, hy, hpa, hla, h2⟩
  have h12 := h1.trans1 h2
  go_wp2_with fail
  refine (ma_Bytes pa la 32 Z.Q.v Z.Q _ hy (HI.out.Q.kept h12) (Nat.le_refl _)).mono ?_
  rintro e wd ⟨⟨bb, O, rfl, _, hO, hOv⟩, h3⟩
  have h13 := h12.trans1 h3
  have hbl := blen_le_n HI.out.Q.lt
  have hgt := HI.out.Q.gt
  have hbp := blen_pos (n := Z.Q.v) (by omega)
  have hn31 := HI.out.Q.n31
  have HOv := Lib.hid hOv
  clear hOv
  go_wp2_with fail
  refine (ma_SetOver p20 l20 0 0 Z.P bb _ O _ ((hx.kept h2).kept h3) (HI.out.P.kept h13) hO oP.2.2.1 (by omega) (by omega)).mono ?_
  rintro e we ⟨hR, h5⟩
  have hs := h13.two hp hl h5
  have HT := Lib.hid hs
  have Hp := Lib.hid hp; have Hl := Lib.hid hl
  have HOP := Lib.hid oP.2.2.1
  replace HI := Lib.hid (HI.out.kept hs); replace HK := Lib.hid (HK.out.trans hs (by simp))
  clear hs
  clear hx hy hp hl h1 h2 h3 h5 h12 h13 hpa hla hO oP hbl hn31 hbp hgt
  rcases hR with ⟨rfl, hx⟩ | ⟨t, x, rfl⟩
  · rw [HOv.out] at hx
    have HX := Lib.hid hx
    clear hx
    have c7 := HI.out.c7
    go_wp2_with fail
    conv => arg 2; whnf
    go_wp2_with fail
    refine (ma_Mul p20 l20 32 _ Z.i Z.li 32 Z.QI Z.P _ HX.out HI.out.i HI.out.P HOP.out (by omega)).mono ?_
    rintro e wf ⟨rfl, hx, h5⟩
    have hk := HT.out.two Hp.out Hl.out h5
    replace HI := Lib.hid (HB.out.kept hk); replace HK := Lib.hid (HKB.out.trans hk (by simp))
    have HK0 := Lib.hid hk
    clear h5 HX c7 hk
    go_wp2_with fail
    refine (nat_IsOne p20 l20 _ 32 _ _ hx (by omega)).mono ?_
    rintro e wg ⟨r, rfl, hr, rfl⟩
    rcases hr.case with ⟨rfl, hq⟩ | ⟨rfl, hq⟩
    · have HQ := Lib.hid hq
      clear hq hr hx
      go_wp2_with fail
      refine (errors_New _ _).mono ?_
      rintro e wz ⟨⟨bz, rfl, _, _⟩, hz⟩
      have HIz := Lib.hid (HI.out.kept hz); have HKz := Lib.hid (HK.out.trans hz (by simp))
      clear hz
      go_wp2
      go_ret
      exact ⟨⟨_, rfl, .inr ⟨fun h => HQ.out h.qi, _, _, rfl⟩⟩, HIz.out, HKz.out⟩
    · have HQ := Lib.hid hq
      clear hq hr hx
      go_upto_region 51 with fail
      exact chk51 Z w0 _ HI HK a14 a18 p16 l16 p19 l19 (Lib.hid (HAa14.out.kept HK0.out)) (Lib.hid (HAa18.out.kept HK0.out)) HAV14 HAV18 (Lib.hid (HX16.out.kept HK0.out)) (Lib.hid (HX19.out.kept HK0.out)) (Lib.hid (HG.out HQ.out)) (by assumption)
  · go_wp2_with fail
    conv => arg 2; whnf
    go_wp2_with fail
    refine (newNat_any _).mono ?_
    rintro e wa ⟨p21, l21, rfl, hx, hp, hl, h1⟩
    have oP := HI.out.P.old hl; have oP2 := HI.out.P.old hp
    go_wp2_with fail
    refine (ma_Nat Z.Q _ (HI.out.Q.kept h1)).mono ?_
    rintro e wc' ⟨pa, la, rfl, hy, hpa, hla, h2⟩
    have h12 := h1.trans1 h2
    have o1 := hx.old hpa; have o2 := hx.old hla
    have hnQ := HI.out.Q.n31
    go_wp2_with fail
    refine (ma_Mod p21 l21 0 0 pa la _ 32 Z.Q.v Z.P _ (hx.kept h2) hy (HI.out.P.kept h12) oP.2.2.1 (Ne.symm o2.2) o1.1 (Ne.symm oP2.2.1) (by omega)).mono ?_
    rintro e we' ⟨rfl, hx, h5⟩
    have hs := h12.two hp hl h5
    have HTb := Lib.hid (HT.out.trans1 hs)
    have hszT := HT.out.size
    have Hp2 := Lib.hid (Nat.le_trans hszT hp); have Hl2 := Lib.hid (Nat.le_trans hszT hl)
    have HOP2 := Lib.hid oP.2.2.1
    replace HI := Lib.hid (HI.out.kept hs); replace HK := Lib.hid (HK.out.trans hs (by simp))
    clear hs
    clear hy hp hl h1 h2 h5 h12 hpa hla oP oP2 o1 o2 hnQ hszT
    have HX := Lib.hid hx
    clear hx
    have c7 := HI.out.c7
    go_wp2_with fail
    refine (ma_Mul p21 l21 32 _ Z.i Z.li 32 Z.QI Z.P _ HX.out HI.out.i HI.out.P HOP2.out (by omega)).mono ?_
    rintro e wf ⟨rfl, hx, h5⟩
    have hk := HTb.out.two Hp2.out Hl2.out h5
    replace HI := Lib.hid (HB.out.kept hk); replace HK := Lib.hid (HKB.out.trans hk (by simp))
    have HK0 := Lib.hid hk
    clear h5 HX c7 hk
    go_wp2_with fail
    refine (nat_IsOne p21 l21 _ 32 _ _ hx (by omega)).mono ?_
    rintro e wg ⟨r, rfl, hr, rfl⟩
    rcases hr.case with ⟨rfl, hq⟩ | ⟨rfl, hq⟩
    · have HQ := Lib.hid hq
      clear hq hr hx
      go_wp2_with fail
      refine (errors_New _ _).mono ?_
      rintro e wz ⟨⟨bz, rfl, _, _⟩, hz⟩
      have HIz := Lib.hid (HI.out.kept hz); have HKz := Lib.hid (HK.out.trans hz (by simp))
      clear hz
      go_wp2
      go_ret
      exact ⟨⟨_, rfl, .inr ⟨fun h => HQ.out h.qi, _, _, rfl⟩⟩, HIz.out, HKz.out⟩
    · have HQ := Lib.hid hq
      clear hq hr hx
      go_upto_region 51 with fail
      exact chk51 Z w0 _ HI HK a14 a18 p16 l16 p19 l19 (Lib.hid (HAa14.out.kept HK0.out)) (Lib.hid (HAa18.out.kept HK0.out)) HAV14 HAV18 (Lib.hid (HX16.out.kept HK0.out)) (Lib.hid (HX19.out.kept HK0.out)) (Lib.hid (HG.out HQ.out)) (by assumption)

end Go.Proofs.YtnfjmngchapdnaaGreatDoor

/- rsa: checkPrivateKey, from its region 36 on. -/
namespace Go.Proofs.YtnfjmngchapdnaaGreatDoor
open Go.RowKit

set_option maxRecDepth 1000000 in
set_option maxHeartbeats 4000000 in
theorem chk36 {Kk : Act → World → Prop} (Z : PK) (w0 : World) {u1 u2 u3 u4 u8 u9 u10 u11 u12 u13 u15 u18 u19 u20 u21 u22 u23 u24 u25 u26 u27 u28 u29 u30 u31 u32 u33 u34 u35 u36 u37 u38 u39 u40 u41 u42 u43 u44 u45 u46 u47 u48 u49 u50 u51 u52 u53 u54 u55 u56 u57 u58 u59 u60 u61 u62 u63 u64 u65 u66 u67 u68 u69 u70 u71 u72 u73 u74 u75 u76 u77 u78 u79 u80 u81 u82 u83 u84 u85 u86 u87 u88 u89 u90 u91 u92 u93 u94 u95 u96 u97 u98 u99 u100 u101 u102 u103 u104 u105 u106 u107 u108 u109 u110 u111 u112 u113 u114 u115 u116 u117 u118 u119 u120 u121 u122 u123 u124 u125 u126 u127 u128 u129 u130 u131 u132 u133 u134 u135 u136 u137 u138 u139 u140 u141 u142 u143 u144 u145 u146 u147 u148 u149 u150 u151 u152 u153 u154 u155 u156 u157 u158 u159 u160 u161 u162 u163 u164 u165 u166 u167 u168 u169 u170 u171 u172 u173 u174 u175 u176 u177 u178 u179 u180 u181 u182 u183 u184 u185 u186 u187 u188 u189 u190 u191 u192 u193 u194 u195 u196 u197 u198 u199 u200 u201 u202 u203 u204 u205 u206 u207 u208 u209 u210 u211 u212 u213 u214 u215 u216 u217 u218 u219 u220 u221 u222 u223 u224 u225 u226 u227 u228 u229 u230 u231 u232 u233 u234 u235 u236 u237 u238 u239 u240 u241 u242 u243 u244 u245 u246 u247 u248 u249 u250 u251 u252 u253 u254 u255 u256 u257 u258 u259 u260 u261 u262 u263 u264 u265 u266 u267 u268 u269 u270 u271 u272 u273 u274 u275 u276 u277 u278 u279 u280 u281 u282 u283 u284 u285 u286 u287 u288 u289 u290 u291 u292 u293 u294 u295 u296 u297 u298 u299 u300 u301 u302 u303 u304 u305 u306 u307 u308 u309 : Value}
    (wb w : World) (HBI : Hid (Z.is wb)) (HKb : Hid (Keeps [Z.pk] w0 wb)) (HT : Hid (Keeps [] wb w)) (ke : Nat) (HKE : Hid (Z.E = (ke : Int))) (hke2 : ke < 4294967296)
    (HFP : Hid (∀ n, Z.P.v - 1 < BB ^ n → bval Z.LP < Z.P.v - 1 → Z.mP ≤ 8 * n)) (HFQ : Hid (∀ n, Z.Q.v - 1 < BB ^ n → bval Z.LQ < Z.Q.v - 1 → Z.mQ ≤ 8 * n))
    (a14 : MA) (p16 l16 p17 l17 k17 v17 : Nat) (HBA : Hid (a14.is wb)) (HAV14 : Hid (a14.v = Z.P.v - 1)) (HB16 : Hid (NatV wb p16 l16 a14.n 32 (bval Z.LP))) (HX17 : Hid (NatV w p17 l17 k17 32 v17)) (Hp17 : Hid (wb.heap.size ≤ p17)) (Hl17 : Hid (wb.heap.size ≤ l17))
    (HG : Hid (2 < Z.Q.v → bval Z.LQ < Z.Q.v - 1 → Z.E.toNat * bval Z.LQ % (Z.Q.v - 1) = 1 → Z.Q.v % Z.P.v * Z.QI % Z.P.v = 1 → Z.D % (Z.P.v - 1) = bval Z.LP → Z.D % (Z.Q.v - 1) = bval Z.LQ → Z.P.v ≠ Z.Q.v → blen Z.N.v / 2 < blen (Z.P.v - Z.Q.v + (Z.Q.v - Z.P.v)) + 100 → blen Z.N.v / 2 < blen Z.D → PrivOk Z))
    (hZ : ∀ a w, Code.wp Tryz.prog (tail36) (bodyPost Tryz.prog Tryz.f54 (chkPost Z w0)) a w → Kk a w) :
    Code.wp Tryz.prog (reg36) (Exit.then Kk (bodyPost Tryz.prog Tryz.f54 (chkPost Z w0))) ⟨#[.pointer (some ⟨Z.pk, 0, none⟩), u1, u2, u3, u4, .pointer (some ⟨Z.N.m, 0, none⟩), .pointer (some ⟨Z.P.m, 0, none⟩), .pointer (some ⟨Z.Q.m, 0, none⟩), u8, u9, u10, u11, u12, u13, .pointer (some ⟨a14.m, 0, none⟩), u15, .pointer (some ⟨p16, 0, none⟩), .pointer (some ⟨p17, 0, none⟩), u18, u19, u20, u21, u22, u23, u24, u25, u26, u27, u28, u29, u30, u31, u32, u33, u34, u35, u36, u37, u38, u39, u40, u41, u42, u43, u44, u45, u46, u47, u48, u49, u50, u51, u52, u53, u54, u55, u56, u57, u58, u59, u60, u61, u62, u63, u64, u65, u66, u67, u68, u69, u70, u71, u72, u73, u74, u75, u76, u77, u78, u79, u80, u81, u82, u83, u84, u85, u86, u87, u88, u89, u90, u91, u92, u93, u94, u95, u96, u97, u98, u99, u100, u101, u102, u103, u104, u105, u106, u107, u108, u109, u110, u111, u112, u113, u114, u115, u116, u117, u118, u119, u120, u121, u122, u123, u124, u125, u126, u127, u128, u129, u130, u131, u132, u133, u134, u135, u136, u137, u138, u139, u140, u141, u142, u143, u144, u145, u146, u147, u148, u149, u150, u151, u152, u153, u154, u155, u156, u157, u158, u159, u160, u161, u162, u163, u164, u165, u166, u167, u168, u169, u170, u171, u172, u173, u174, u175, u176, u177, u178, u179, u180, u181, u182, u183, u184, u185, u186, u187, u188, u189, u190, u191, u192, u193, u194, u195, u196, u197, u198, u199, u200, u201, u202, u203, u204, u205, u206, u207, u208, u209, u210, u211, u212, u213, u214, u215, u216, u217, u218, u219, u220, u221, u222, u223, u224, u225, u226, u227, u228, u229, u230, u231, u232, u233, u234, u235, u236, u237, u238, u239, u240, u241, u242, u243, u244, u245, u246, u247, u248, u249, u250, u251, u252, u253, u254, u255, u256, u257, u258, u259, u260, u261, u262, u263, u264, u265, u266, u267, u268, u269, u270, u271, u272, u273, u274, u275, u276, u277, u278, u279, u280, u281, u282, u283, u284, u285, u286, u287, u288, u289, u290, u291, u292, u293, u294, u295, u296, u297, u298, u299, u300, u301, u302, u303, u304, u305, u306, u307, u308, u309], []⟩ w := by
  conv => arg 2; whnf
  have HI := Lib.hid (HBI.out.kept HT.out)
  have HK := Lib.hid (HKb.out.trans HT.out (by simp))
  have HS17 := HX17
  have HTT := HT
  have hnN := HI.out.N.n31
  go_wp2_with fail
  refine (ma_Nat Z.Q _ HI.out.Q).mono ?_
  rintro e wa ⟨pa, la, rfl, hy, hpa, hla, h1⟩
  have oP := HI.out.Q.old hla
  have hgt := HI.out.Q.gt
  go_wp2_with fail
  refine (ma_SubOne pa la 32 Z.Q.v Z.Q _ hy (HI.out.Q.kept h1) oP.2.2.1 (by omega)).mono ?_
  rintro e wb' ⟨rfl, hy, h2⟩
  have h12 := h1.one hla h2
  go_wp2_with fail
  refine (ma_Bytes pa la 32 (Z.Q.v - 1) Z.Q _ hy (HI.out.Q.kept h12) (by omega)).mono ?_
  rintro e wc ⟨⟨bb, O, rfl, _, hO, hOv⟩, h3⟩
  have h13 := h12.trans1 h3
  have HOv := Lib.hid hOv
  clear hOv
  have hbl := blen_le_n HI.out.Q.lt
  have hn30' := HI.out.q30
  go_wp2_with fail
  refine (ma_NewMod _ _ _ O _ hO (by omega)).mono ?_
  rintro e wd ⟨hR, h4⟩
  have hs := h13.trans1 h4
  have hsz := h13.size
  clear h1 h2 h3 h4 h12 hO hy hpa hla oP hbl hn30'
  rcases hR with ⟨hgt1, a18, hav, hn30, hA, hnew, rfl⟩ | ⟨hle, t, x, rfl⟩
  rotate_left
  · replace HI := Lib.hid (HI.out.kept hs); replace HK := Lib.hid (HK.out.trans hs (by simp)); replace HTT := Lib.hid (HTT.out.trans1 hs)
    clear hs hsz h13
    have HLE := Lib.hid hle
    clear hle
    go_wp2_with fail
    conv => arg 2; whnf
    go_wp2_with fail
    refine (errors_New _ _).mono ?_
    rintro e wz ⟨⟨bz, rfl, _, _⟩, hz⟩
    have HIz := Lib.hid (HI.out.kept hz); have HKz := Lib.hid (HK.out.trans hz (by simp))
    clear hz
    go_wp2
    go_ret
    exact ⟨⟨_, rfl, .inr ⟨fun h => (by have h1 := h.q3; have h2 := HLE.out; have h3 := HOv.out; omega), _, _, rfl⟩⟩, HIz.out, HKz.out⟩
  rw [HOv.out] at hav
  have HAVa18 := Lib.hid hav
  rw [HOv.out] at hgt1
  have HGT := Lib.hid hgt1
  have HNEW := Lib.hid (show a18.new _ from ⟨Nat.le_trans hsz hnew.m, Nat.le_trans hsz hnew.p, Nat.le_trans hsz hnew.l, Nat.le_trans hsz hnew.r, Nat.le_trans hsz hnew.s⟩)
  have HAa18 := Lib.hid hA
  clear hav hgt1 hnew hA hn30 HOv h13 hsz
  replace HI := Lib.hid (HI.out.kept hs); replace HK := Lib.hid (HK.out.trans hs (by simp)); replace HTT := Lib.hid (HTT.out.trans1 hs)
  replace HX17 := Lib.hid (HX17.out.kept hs)
  clear hs
  go_wp2_with fail
  conv => arg 2; whnf
  go_wp2_with fail
  have HT1 := Lib.hid (HBI.out.N.kept HT.out)
  clear HT1
  have cc := HI.out.c6
  have hmb := HI.out.mQ
  by_cases hfit : Z.mQ ≤ 8 * a18.n ∧ bval Z.LQ < a18.v
  rotate_left
  · refine wp_region_txt [2,0,0,0,0,0,2,0,0,0,0,0] (fun w' => w'.cell? ⟨Z.pk, 6, none⟩ = some (.slice Z.aQ Z.mQ Z.cQ)) (by kernel_rfl) (by kernel_rfl) cc ?_
    simp only [withMarks]
    repeat (first
      | ((with_reducible refine txt_v (v := ?_) ?_ ?_); (any_goals ((with_reducible refine Yl.mk ?_ ?_); rfl; intro w hSw; (go_simp <;> (try go_bits) <;> (repeat (first | rw [if_pos (by omega)] | rw [if_neg (by omega)])) <;> with_reducible rfl))); try simp only [Act.put, List.setIfInBounds_toArray, List.set_cons_zero, List.set_cons_succ])
      | ((with_reducible refine txt_u ?_ ?_); rfl; try simp only [Act.put, List.setIfInBounds_toArray, List.set_cons_zero, List.set_cons_succ])
      | ((with_reducible refine txt_l (v := ?_) ?_ ?_); (any_goals ((with_reducible refine Reads.mk ?_ ?_); rfl; (go_simp <;> (try go_bits) <;> (repeat (first | rw [if_pos (by omega)] | rw [if_neg (by omega)])) <;> with_reducible rfl))); try simp only [Act.put, List.setIfInBounds_toArray, List.set_cons_zero, List.set_cons_succ])
      | ((with_reducible refine txt_e ?_ ?_); rfl; intro K hK; go_simp; (first | (refine hK _ _ (by first | exact (HI.out.drew.kept (h1.two hp hl h2)).c6 | exact (HI.out.drew.kept h1).c6 | exact cc) ?_) | ((first | (go_at_call 52; refine (ma_SetBytes_no p19 l19 0 0 a18 _ _ _ Z.LQ _ hx (HAa18.out.drew.kept h1) (HI.out.drew.dQ.kept h1) (HAa18.out.drew.old hl).2.2.1 (by omega) hfit).mono ?_; rintro e2 w2 ⟨⟨t, x, rfl⟩, h2⟩) | (go_at_call 51; refine (newNat_any _).mono ?_; rintro e1 w1 ⟨p19, l19, rfl, hx, hp, hl, h1⟩)); dsimp only; refine hK _ _ (by first | exact (HI.out.drew.kept (h1.two hp hl h2)).c6 | exact (HI.out.drew.kept h1).c6 | exact cc) ?_)); clear hK K; try simp only [Act.put, List.setIfInBounds_toArray, List.set_cons_zero, List.set_cons_succ]))
    refine txt_nil ?_
    have hs := (Keeps.refl [] _).drew.trans1 (h1.two hp hl h2)
    replace HI := Lib.hid (HI.out.kept hs); replace HK := Lib.hid (HK.out.trans hs (by simp)); replace HTT := Lib.hid (HTT.out.trans1 hs)
    clear hs
    have HNF := Lib.hid hfit
    clear hfit cc hmb h1 h2 hp hl hx
    go_wp2_with fail
    refine (errors_New _ _).mono ?_
    rintro e wz ⟨⟨bz, rfl, _, _⟩, hz⟩
    have HIz := Lib.hid (HI.out.kept hz); have HKz := Lib.hid (HK.out.trans hz (by simp))
    clear hz
    go_wp2
    go_ret
    exact ⟨⟨_, rfl, .inr ⟨fun h => HNF.out ⟨HFQ.out a18.n (by rw [← HAVa18.out]; exact HAa18.out.lt) h.dq, by rw [HAVa18.out]; exact h.dq⟩, _, _, rfl⟩⟩, HIz.out, HKz.out⟩
  refine wp_region_txt [2,0,0,0,0,0,2,0,0,0,0,0] (fun w' => w'.cell? ⟨Z.pk, 6, none⟩ = some (.slice Z.aQ Z.mQ Z.cQ)) (by kernel_rfl) (by kernel_rfl) cc ?_
  simp only [withMarks]
  repeat (first
    | ((with_reducible refine txt_v (v := ?_) ?_ ?_); (any_goals ((with_reducible refine Yl.mk ?_ ?_); rfl; intro w hSw; (go_simp <;> (try go_bits) <;> (repeat (first | rw [if_pos (by omega)] | rw [if_neg (by omega)])) <;> with_reducible rfl))); try simp only [Act.put, List.setIfInBounds_toArray, List.set_cons_zero, List.set_cons_succ])
    | ((with_reducible refine txt_u ?_ ?_); rfl; try simp only [Act.put, List.setIfInBounds_toArray, List.set_cons_zero, List.set_cons_succ])
    | ((with_reducible refine txt_l (v := ?_) ?_ ?_); (any_goals ((with_reducible refine Reads.mk ?_ ?_); rfl; (go_simp <;> (try go_bits) <;> (repeat (first | rw [if_pos (by omega)] | rw [if_neg (by omega)])) <;> with_reducible rfl))); try simp only [Act.put, List.setIfInBounds_toArray, List.set_cons_zero, List.set_cons_succ])
    | ((with_reducible refine txt_e ?_ ?_); rfl; intro K hK; go_simp; (first | (refine hK _ _ (by first | exact (HI.out.drew.kept (h1.two hp hl h2)).c6 | exact (HI.out.drew.kept h1).c6 | exact cc) ?_) | ((first | (go_at_call 52; refine (ma_SetBytes_ok p19 l19 0 0 a18 _ _ _ Z.LQ _ hx (HAa18.out.drew.kept h1) (HI.out.drew.dQ.kept h1) (HAa18.out.drew.old hl).2.2.1 (by omega) hfit).mono ?_; rintro e2 w2 ⟨rfl, hx2, h2⟩) | (go_at_call 51; refine (newNat_any _).mono ?_; rintro e1 w1 ⟨p19, l19, rfl, hx, hp, hl, h1⟩)); dsimp only; refine hK _ _ (by first | exact (HI.out.drew.kept (h1.two hp hl h2)).c6 | exact (HI.out.drew.kept h1).c6 | exact cc) ?_)); clear hK K; try simp only [Act.put, List.setIfInBounds_toArray, List.set_cons_zero, List.set_cons_succ]))
  refine txt_nil ?_
  have hs := (Keeps.refl [] _).drew.trans1 (h1.two hp hl h2)
  have o1 := HX17.out.drew.old hp; have o2 := HX17.out.drew.old hl
  have HO19 := Lib.hid (And.intro o1 o2)
  clear o1 o2
  replace HI := Lib.hid (HI.out.kept hs); replace HK := Lib.hid (HK.out.trans hs (by simp)); replace HTT := Lib.hid (HTT.out.trans1 hs)
  replace HAa18 := Lib.hid (HAa18.out.kept hs)
  replace HX17 := Lib.hid (HX17.out.kept hs)
  clear hs
  have HX19 := Lib.hid hx2
  have HFIT := Lib.hid hfit
  clear hfit cc hmb h1 h2 hp hl hx hx2
  have hn18 := HAa18.out.n31; have hp18 := HAa18.out.npos
  have c1 := HI.out.c1
  rw [HKE.out] at c1
  go_wp2_with fail
  refine (nat_SetUint p17 l17 k17 v17 ke _ HX17.out (by unfold BB; omega)).mono ?_
  rintro e wa1 ⟨rfl, hd, h1⟩
  have HD18 : Hid (∀ x, x ∈ [a18.m, a18.p, a18.l, a18.r, a18.s] → x ∉ [p17, l17]) := Lib.hid fun x hx => by
    have o1 := HS17.out.old HNEW.out.m; have o2 := HS17.out.old HNEW.out.p; have o3 := HS17.out.old HNEW.out.l; have o4 := HS17.out.old HNEW.out.r; have o5 := HS17.out.old HNEW.out.s
    simp at hx ⊢
    omega
  have HLa : Hid (a18.l ≠ l17) := Lib.hid (by have := HD18.out a18.l (by simp); simp at this; exact this.2)
  go_wp2_with fail
  refine (ma_ExpandFor p17 l17 1 ke a18 _ hd (HAa18.out.keeps h1 HD18.out) (by omega)).mono ?_
  rintro e wa2 ⟨rfl, hd, h2⟩
  have h12 := h1.trans1 h2
  have hx19 := HX19.out.keeps h12 (by have := HO19.out; simp; omega) (by have := HO19.out; simp; omega)
  clear c1
  go_wp2_with fail
  refine (ma_Mul p17 l17 32 ke p19 l19 32 (bval Z.LQ) a18 _ hd hx19 (HAa18.out.keeps h12 HD18.out) HLa.out (by omega)).mono ?_
  rintro e wa3 ⟨rfl, hd, h3⟩
  have hk := h12.trans1 h3
  have hk0 := HTT.out.two Hp17.out Hl17.out hk
  replace HX19 := Lib.hid (HX19.out.keeps hk (by have := HO19.out; simp; omega) (by have := HO19.out; simp; omega))
  replace HAa18 := Lib.hid (HAa18.out.keeps hk HD18.out)
  replace HI := Lib.hid (HBI.out.kept hk0); replace HK := Lib.hid (HKb.out.trans hk0 (by simp))
  have HK0 := Lib.hid hk0
  clear h1 h2 h3 h12 hx19 hk hk0
  go_wp2_with fail
  refine (nat_IsOne p17 l17 _ 32 _ _ hd (by omega)).mono ?_
  rintro e wg ⟨r, rfl, hr, rfl⟩
  rcases hr.case with ⟨rfl, hq⟩ | ⟨rfl, hq⟩
  · have HQ := Lib.hid hq
    clear hq hr hd
    go_wp2_with fail
    refine (errors_New _ _).mono ?_
    rintro e wz ⟨⟨bz, rfl, _, _⟩, hz⟩
    have HIz := Lib.hid (HI.out.kept hz); have HKz := Lib.hid (HK.out.trans hz (by simp))
    clear hz
    go_wp2
    go_ret
    exact ⟨⟨_, rfl, .inr ⟨fun h => HQ.out (by have h1 := h.eq; rw [HKE.out, Int.toNat_natCast] at h1; rw [HAVa18.out]; exact h1), _, _, rfl⟩⟩, HIz.out, HKz.out⟩
  · have HQ := Lib.hid hq
    clear hq hr hd
    go_upto_region 46 with fail
    exact chk46 Z w0 _ HI HK a14 a18 p16 l16 p19 l19 (Lib.hid (HBA.out.kept HK0.out)) HAa18 HAV14 HAVa18 (Lib.hid (HB16.out.kept HK0.out)) HX19 (Lib.hid (HG.out (by have := HGT.out; omega) (by have := HFIT.out.2; rw [HAVa18.out] at this; exact this) (by have h1 := HQ.out; rw [HAVa18.out] at h1; rw [HKE.out, Int.toNat_natCast]; exact h1))) (by assumption)

end Go.Proofs.YtnfjmngchapdnaaGreatDoor
