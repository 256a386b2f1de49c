import Derived.Test.YtnfjmngchapdnaaGreatDoorMChk46
/- rsa: checkPrivateKey, from its region 25 on. -/
namespace Go.Proofs.YtnfjmngchapdnaaGreatDoor
open Go.RowKit

set_option maxRecDepth 1000000 in
set_option maxHeartbeats 4000000 in
theorem chk25 {Kk : Act → World → Prop} (Z : PK) (w0 : World) {u1 u2 u3 u4 u8 u9 u10 u11 u12 u13 u14 u15 u16 u17 u18 u19 u20 u21 u22 u23 u24 u25 u26 u27 u28 u29 u30 u31 u32 u33 u34 u35 u36 u37 u38 u39 u40 u41 u42 u43 u44 u45 u46 u47 u48 u49 u50 u51 u52 u53 u54 u55 u56 u57 u58 u59 u60 u61 u62 u63 u64 u65 u66 u67 u68 u69 u70 u71 u72 u73 u74 u75 u76 u77 u78 u79 u80 u81 u82 u83 u84 u85 u86 u87 u88 u89 u90 u91 u92 u93 u94 u95 u96 u97 u98 u99 u100 u101 u102 u103 u104 u105 u106 u107 u108 u109 u110 u111 u112 u113 u114 u115 u116 u117 u118 u119 u120 u121 u122 u123 u124 u125 u126 u127 u128 u129 u130 u131 u132 u133 u134 u135 u136 u137 u138 u139 u140 u141 u142 u143 u144 u145 u146 u147 u148 u149 u150 u151 u152 u153 u154 u155 u156 u157 u158 u159 u160 u161 u162 u163 u164 u165 u166 u167 u168 u169 u170 u171 u172 u173 u174 u175 u176 u177 u178 u179 u180 u181 u182 u183 u184 u185 u186 u187 u188 u189 u190 u191 u192 u193 u194 u195 u196 u197 u198 u199 u200 u201 u202 u203 u204 u205 u206 u207 u208 u209 u210 u211 u212 u213 u214 u215 u216 u217 u218 u219 u220 u221 u222 u223 u224 u225 u226 u227 u228 u229 u230 u231 u232 u233 u234 u235 u236 u237 u238 u239 u240 u241 u242 u243 u244 u245 u246 u247 u248 u249 u250 u251 u252 u253 u254 u255 u256 u257 u258 u259 u260 u261 u262 u263 u264 u265 u266 u267 u268 u269 u270 u271 u272 u273 u274 u275 u276 u277 u278 u279 u280 u281 u282 u283 u284 u285 u286 u287 u288 u289 u290 u291 u292 u293 u294 u295 u296 u297 u298 u299 u300 u301 u302 u303 u304 u305 u306 u307 u308 u309 : Value}
    (w : World) (HI : Hid (Z.is w)) (HK : Hid (Keeps [Z.pk] w0 w)) (ke : Nat) (HKE : Hid (Z.E = (ke : Int))) (hke2 : ke < 4294967296)
    (HFP : Hid (∀ n, Z.P.v - 1 < BB ^ n → bval Z.LP < Z.P.v - 1 → Z.mP ≤ 8 * n)) (HFQ : Hid (∀ n, Z.Q.v - 1 < BB ^ n → bval Z.LQ < Z.Q.v - 1 → Z.mQ ≤ 8 * n))
    (HG : Hid (2 < Z.P.v → bval Z.LP < Z.P.v - 1 → Z.E.toNat * bval Z.LP % (Z.P.v - 1) = 1 → 2 < Z.Q.v → bval Z.LQ < Z.Q.v - 1 → Z.E.toNat * bval Z.LQ % (Z.Q.v - 1) = 1 → Z.Q.v % Z.P.v * Z.QI % Z.P.v = 1 → Z.D % (Z.P.v - 1) = bval Z.LP → Z.D % (Z.Q.v - 1) = bval Z.LQ → Z.P.v ≠ Z.Q.v → blen Z.N.v / 2 < blen (Z.P.v - Z.Q.v + (Z.Q.v - Z.P.v)) + 100 → blen Z.N.v / 2 < blen Z.D → PrivOk Z))
    (hZ : ∀ a w, Code.wp Tryz.prog (tail25) (bodyPost Tryz.prog Tryz.f54 (chkPost Z w0)) a w → Kk a w) :
    Code.wp Tryz.prog (reg25) (Exit.then Kk (bodyPost Tryz.prog Tryz.f54 (chkPost Z w0))) ⟨#[.pointer (some ⟨Z.pk, 0, none⟩), u1, u2, u3, u4, .pointer (some ⟨Z.N.m, 0, none⟩), .pointer (some ⟨Z.P.m, 0, none⟩), .pointer (some ⟨Z.Q.m, 0, none⟩), u8, u9, u10, u11, u12, u13, u14, u15, u16, u17, u18, u19, u20, u21, u22, u23, u24, u25, u26, u27, u28, u29, u30, u31, u32, u33, u34, u35, u36, u37, u38, u39, u40, u41, u42, u43, u44, u45, u46, u47, u48, u49, u50, u51, u52, u53, u54, u55, u56, u57, u58, u59, u60, u61, u62, u63, u64, u65, u66, u67, u68, u69, u70, u71, u72, u73, u74, u75, u76, u77, u78, u79, u80, u81, u82, u83, u84, u85, u86, u87, u88, u89, u90, u91, u92, u93, u94, u95, u96, u97, u98, u99, u100, u101, u102, u103, u104, u105, u106, u107, u108, u109, u110, u111, u112, u113, u114, u115, u116, u117, u118, u119, u120, u121, u122, u123, u124, u125, u126, u127, u128, u129, u130, u131, u132, u133, u134, u135, u136, u137, u138, u139, u140, u141, u142, u143, u144, u145, u146, u147, u148, u149, u150, u151, u152, u153, u154, u155, u156, u157, u158, u159, u160, u161, u162, u163, u164, u165, u166, u167, u168, u169, u170, u171, u172, u173, u174, u175, u176, u177, u178, u179, u180, u181, u182, u183, u184, u185, u186, u187, u188, u189, u190, u191, u192, u193, u194, u195, u196, u197, u198, u199, u200, u201, u202, u203, u204, u205, u206, u207, u208, u209, u210, u211, u212, u213, u214, u215, u216, u217, u218, u219, u220, u221, u222, u223, u224, u225, u226, u227, u228, u229, u230, u231, u232, u233, u234, u235, u236, u237, u238, u239, u240, u241, u242, u243, u244, u245, u246, u247, u248, u249, u250, u251, u252, u253, u254, u255, u256, u257, u258, u259, u260, u261, u262, u263, u264, u265, u266, u267, u268, u269, u270, u271, u272, u273, u274, u275, u276, u277, u278, u279, u280, u281, u282, u283, u284, u285, u286, u287, u288, u289, u290, u291, u292, u293, u294, u295, u296, u297, u298, u299, u300, u301, u302, u303, u304, u305, u306, u307, u308, u309], []⟩ w := by
  conv => arg 2; whnf
  go_wp2_with fail
  refine (ma_Nat Z.P _ HI.out.P).mono ?_
  rintro e wa ⟨pa, la, rfl, hy, hpa, hla, h1⟩
  have oP := HI.out.P.old hla
  have hgt := HI.out.P.gt
  go_wp2_with fail
  refine (ma_SubOne pa la 32 Z.P.v Z.P _ hy (HI.out.P.kept h1) oP.2.2.1 (by omega)).mono ?_
  rintro e wb' ⟨rfl, hy, h2⟩
  have h12 := h1.one hla h2
  go_wp2_with fail
  refine (ma_Bytes pa la 32 (Z.P.v - 1) Z.P _ hy (HI.out.P.kept h12) (by omega)).mono ?_
  rintro e wc ⟨⟨bb, O, rfl, _, hO, hOv⟩, h3⟩
  have h13 := h12.trans1 h3
  have HOv := Lib.hid hOv
  clear hOv
  have hbl := blen_le_n HI.out.P.lt
  have hn30' := HI.out.p30
  go_wp2_with fail
  refine (ma_NewMod _ _ _ O _ hO (by omega)).mono ?_
  rintro e wd ⟨hR, h4⟩
  have hs := h13.trans1 h4
  have hsz := h13.size
  clear h1 h2 h3 h4 h12 hO hy hpa hla oP hbl hn30'
  rcases hR with ⟨hgt1, a14, hav, hn30, hA, hnew, rfl⟩ | ⟨hle, t, x, rfl⟩
  rotate_left
  · replace HI := Lib.hid (HI.out.kept hs); replace HK := Lib.hid (HK.out.trans hs (by simp))
    clear hs hsz h13
    have HLE := Lib.hid hle
    clear hle
    go_wp2_with fail
    conv => arg 2; whnf
    go_wp2_with fail
    refine (errors_New _ _).mono ?_
    rintro e wz ⟨⟨bz, rfl, _, _⟩, hz⟩
    have HIz := Lib.hid (HI.out.kept hz); have HKz := Lib.hid (HK.out.trans hz (by simp))
    clear hz
    go_wp2
    go_ret
    exact ⟨⟨_, rfl, .inr ⟨fun h => (by have h1 := h.p3; have h2 := HLE.out; have h3 := HOv.out; omega), _, _, rfl⟩⟩, HIz.out, HKz.out⟩
  rw [HOv.out] at hav
  have HAVa14 := Lib.hid hav
  rw [HOv.out] at hgt1
  have HGT := Lib.hid hgt1
  have HNEW := Lib.hid (show a14.new _ from ⟨Nat.le_trans hsz hnew.m, Nat.le_trans hsz hnew.p, Nat.le_trans hsz hnew.l, Nat.le_trans hsz hnew.r, Nat.le_trans hsz hnew.s⟩)
  have HAa14 := Lib.hid hA
  clear hav hgt1 hnew hA hn30 HOv h13 hsz
  replace HI := Lib.hid (HI.out.kept hs); replace HK := Lib.hid (HK.out.trans hs (by simp))
  clear hs
  go_wp2_with fail
  conv => arg 2; whnf
  go_wp2_with fail
  have cc := HI.out.c5
  have hmb := HI.out.mP
  by_cases hfit : Z.mP ≤ 8 * a14.n ∧ bval Z.LP < a14.v
  rotate_left
  · refine wp_region_txt [2,0,0,0,0,0,2,0,0,0,0,0] (fun w' => w'.cell? ⟨Z.pk, 5, none⟩ = some (.slice (some Z.aP) Z.mP Z.cP)) (by kernel_rfl) (by kernel_rfl) cc ?_
    simp only [withMarks]
    repeat (first
      | ((with_reducible refine txt_v (v := ?_) ?_ ?_); (any_goals ((with_reducible refine Yl.mk ?_ ?_); rfl; intro w hSw; (go_simp <;> (try go_bits) <;> (repeat (first | rw [if_pos (by omega)] | rw [if_neg (by omega)])) <;> with_reducible rfl))); try simp only [Act.put, List.setIfInBounds_toArray, List.set_cons_zero, List.set_cons_succ])
      | ((with_reducible refine txt_u ?_ ?_); rfl; try simp only [Act.put, List.setIfInBounds_toArray, List.set_cons_zero, List.set_cons_succ])
      | ((with_reducible refine txt_l (v := ?_) ?_ ?_); (any_goals ((with_reducible refine Reads.mk ?_ ?_); rfl; (go_simp <;> (try go_bits) <;> (repeat (first | rw [if_pos (by omega)] | rw [if_neg (by omega)])) <;> with_reducible rfl))); try simp only [Act.put, List.setIfInBounds_toArray, List.set_cons_zero, List.set_cons_succ])
      | ((with_reducible refine txt_e ?_ ?_); rfl; intro K hK; go_simp; (first | (refine hK _ _ (by first | exact (HI.out.drew.kept (h1.two hp hl h2)).c5 | exact (HI.out.drew.kept h1).c5 | exact cc) ?_) | ((first | (go_at_call 52; refine (ma_SetBytes_no p16 l16 0 0 a14 _ _ _ Z.LP _ hx (HAa14.out.drew.kept h1) (HI.out.drew.dP.kept h1) (HAa14.out.drew.old hl).2.2.1 (by omega) hfit).mono ?_; rintro e2 w2 ⟨⟨t, x, rfl⟩, h2⟩) | (go_at_call 51; refine (newNat_any _).mono ?_; rintro e1 w1 ⟨p16, l16, rfl, hx, hp, hl, h1⟩)); dsimp only; refine hK _ _ (by first | exact (HI.out.drew.kept (h1.two hp hl h2)).c5 | exact (HI.out.drew.kept h1).c5 | exact cc) ?_)); clear hK K; try simp only [Act.put, List.setIfInBounds_toArray, List.set_cons_zero, List.set_cons_succ]))
    refine txt_nil ?_
    have hs := (Keeps.refl [] _).drew.trans1 (h1.two hp hl h2)
    replace HI := Lib.hid (HI.out.kept hs); replace HK := Lib.hid (HK.out.trans hs (by simp))
    clear hs
    have HNF := Lib.hid hfit
    clear hfit cc hmb h1 h2 hp hl hx
    go_wp2_with fail
    refine (errors_New _ _).mono ?_
    rintro e wz ⟨⟨bz, rfl, _, _⟩, hz⟩
    have HIz := Lib.hid (HI.out.kept hz); have HKz := Lib.hid (HK.out.trans hz (by simp))
    clear hz
    go_wp2
    go_ret
    exact ⟨⟨_, rfl, .inr ⟨fun h => HNF.out ⟨HFP.out a14.n (by rw [← HAVa14.out]; exact HAa14.out.lt) h.dp, by rw [HAVa14.out]; exact h.dp⟩, _, _, rfl⟩⟩, HIz.out, HKz.out⟩
  refine wp_region_txt [2,0,0,0,0,0,2,0,0,0,0,0] (fun w' => w'.cell? ⟨Z.pk, 5, none⟩ = some (.slice (some Z.aP) Z.mP Z.cP)) (by kernel_rfl) (by kernel_rfl) cc ?_
  simp only [withMarks]
  repeat (first
    | ((with_reducible refine txt_v (v := ?_) ?_ ?_); (any_goals ((with_reducible refine Yl.mk ?_ ?_); rfl; intro w hSw; (go_simp <;> (try go_bits) <;> (repeat (first | rw [if_pos (by omega)] | rw [if_neg (by omega)])) <;> with_reducible rfl))); try simp only [Act.put, List.setIfInBounds_toArray, List.set_cons_zero, List.set_cons_succ])
    | ((with_reducible refine txt_u ?_ ?_); rfl; try simp only [Act.put, List.setIfInBounds_toArray, List.set_cons_zero, List.set_cons_succ])
    | ((with_reducible refine txt_l (v := ?_) ?_ ?_); (any_goals ((with_reducible refine Reads.mk ?_ ?_); rfl; (go_simp <;> (try go_bits) <;> (repeat (first | rw [if_pos (by omega)] | rw [if_neg (by omega)])) <;> with_reducible rfl))); try simp only [Act.put, List.setIfInBounds_toArray, List.set_cons_zero, List.set_cons_succ])
    | ((with_reducible refine txt_e ?_ ?_); rfl; intro K hK; go_simp; (first | (refine hK _ _ (by first | exact (HI.out.drew.kept (h1.two hp hl h2)).c5 | exact (HI.out.drew.kept h1).c5 | exact cc) ?_) | ((first | (go_at_call 52; refine (ma_SetBytes_ok p16 l16 0 0 a14 _ _ _ Z.LP _ hx (HAa14.out.drew.kept h1) (HI.out.drew.dP.kept h1) (HAa14.out.drew.old hl).2.2.1 (by omega) hfit).mono ?_; rintro e2 w2 ⟨rfl, hx2, h2⟩) | (go_at_call 51; refine (newNat_any _).mono ?_; rintro e1 w1 ⟨p16, l16, rfl, hx, hp, hl, h1⟩)); dsimp only; refine hK _ _ (by first | exact (HI.out.drew.kept (h1.two hp hl h2)).c5 | exact (HI.out.drew.kept h1).c5 | exact cc) ?_)); clear hK K; try simp only [Act.put, List.setIfInBounds_toArray, List.set_cons_zero, List.set_cons_succ]))
  refine txt_nil ?_
  have hs := (Keeps.refl [] _).drew.trans1 (h1.two hp hl h2)

  replace HI := Lib.hid (HI.out.kept hs); replace HK := Lib.hid (HK.out.trans hs (by simp))
  replace HAa14 := Lib.hid (HAa14.out.kept hs)
  clear hs
  have HX16 := Lib.hid hx2
  have HFIT := Lib.hid hfit
  clear hfit cc hmb h1 h2 hp hl hx hx2
  have HBI := HI; have HKb := HK; have HBA := HAa14; have HB16 := HX16
  have hn14 := HAa14.out.n31; have hp14 := HAa14.out.npos
  go_wp2_with fail
  refine (newNat_any _).mono ?_
  rintro e wq ⟨p17, l17, rfl, hd, hp, hl, h0⟩
  have oA := HAa14.out.old hl
  have c1 := (HI.out.kept h0).c1
  rw [HKE.out] at c1
  go_wp2_with fail
  refine (nat_SetUint p17 l17 0 0 ke _ hd (by unfold BB; omega)).mono ?_
  rintro e wa1 ⟨rfl, hd, h1⟩
  have h01 := h0.two hp hl h1
  clear c1
  go_wp2_with fail
  refine (ma_ExpandFor p17 l17 1 ke a14 _ hd (HAa14.out.kept h01) (by omega)).mono ?_
  rintro e wa2 ⟨rfl, hd, h2⟩
  have h02 := h01.two hp hl h2
  go_wp2_with fail
  refine (ma_Mul p17 l17 32 ke p16 l16 32 (bval Z.LP) a14 _ hd (HX16.out.kept h02) (HAa14.out.kept h02) oA.2.2.1 (by omega)).mono ?_
  rintro e wa3 ⟨rfl, hd, h3⟩
  have hs := h02.two hp hl h3
  have HT := Lib.hid hs
  have Hp17 := Lib.hid hp; have Hl17 := Lib.hid hl
  replace HI := Lib.hid (HI.out.kept hs); replace HK := Lib.hid (HK.out.trans hs (by simp))
  clear hs
  clear h0 h1 h2 h3 h01 h02 oA hp hl
  go_wp2_with fail
  refine (nat_IsOne p17 l17 _ 32 _ _ hd (by omega)).mono ?_
  rintro e wg ⟨r, rfl, hr, rfl⟩
  have HX17 := Lib.hid hd
  rcases hr.case with ⟨rfl, hq⟩ | ⟨rfl, hq⟩
  · have HQ := Lib.hid hq
    clear hq hr hd
    go_wp2_with fail
    refine (errors_New _ _).mono ?_
    rintro e wz ⟨⟨bz, rfl, _, _⟩, hz⟩
    have HIz := Lib.hid (HI.out.kept hz); have HKz := Lib.hid (HK.out.trans hz (by simp))
    clear hz
    go_wp2
    go_ret
    exact ⟨⟨_, rfl, .inr ⟨fun h => HQ.out (by have h1 := h.ep; rw [HKE.out, Int.toNat_natCast] at h1; rw [HAVa14.out]; exact h1), _, _, rfl⟩⟩, HIz.out, HKz.out⟩
  · have HQ := Lib.hid hq
    clear hq hr hd
    go_upto_region 36 with fail
    exact chk36 Z w0 _ _ HBI HKb HT ke HKE hke2 HFP HFQ a14 p16 l16 p17 l17 _ _ HBA HAVa14 HB16 HX17 Hp17 Hl17 (Lib.hid (HG.out (by have := HGT.out; omega) (by have := HFIT.out.2; rw [HAVa14.out] at this; exact this) (by have h1 := HQ.out; rw [HAVa14.out] at h1; rw [HKE.out, Int.toNat_natCast]; exact h1))) (by assumption)

end Go.Proofs.YtnfjmngchapdnaaGreatDoor

/- rsa: checkPrivateKey, from its region 15 on. -/
namespace Go.Proofs.YtnfjmngchapdnaaGreatDoor
open Go.RowKit

set_option maxRecDepth 1000000 in
set_option maxHeartbeats 4000000 in
theorem chk15 {Kk : Act → World → Prop} (Z : PK) (w0 : World) {u1 u2 u3 u4 u8 u9 u10 u11 u12 u13 u14 u15 u16 u17 u18 u19 u20 u21 u22 u23 u24 u25 u26 u27 u28 u29 u30 u31 u32 u33 u34 u35 u36 u37 u38 u39 u40 u41 u42 u43 u44 u45 u46 u47 u48 u49 u50 u51 u52 u53 u54 u55 u56 u57 u58 u59 u60 u61 u62 u63 u64 u65 u66 u67 u68 u69 u70 u71 u72 u73 u74 u75 u76 u77 u78 u79 u80 u81 u82 u83 u84 u85 u86 u87 u88 u89 u90 u91 u92 u93 u94 u95 u96 u97 u98 u99 u100 u101 u102 u103 u104 u105 u106 u107 u108 u109 u110 u111 u112 u113 u114 u115 u116 u117 u118 u119 u120 u121 u122 u123 u124 u125 u126 u127 u128 u129 u130 u131 u132 u133 u134 u135 u136 u137 u138 u139 u140 u141 u142 u143 u144 u145 u146 u147 u148 u149 u150 u151 u152 u153 u154 u155 u156 u157 u158 u159 u160 u161 u162 u163 u164 u165 u166 u167 u168 u169 u170 u171 u172 u173 u174 u175 u176 u177 u178 u179 u180 u181 u182 u183 u184 u185 u186 u187 u188 u189 u190 u191 u192 u193 u194 u195 u196 u197 u198 u199 u200 u201 u202 u203 u204 u205 u206 u207 u208 u209 u210 u211 u212 u213 u214 u215 u216 u217 u218 u219 u220 u221 u222 u223 u224 u225 u226 u227 u228 u229 u230 u231 u232 u233 u234 u235 u236 u237 u238 u239 u240 u241 u242 u243 u244 u245 u246 u247 u248 u249 u250 u251 u252 u253 u254 u255 u256 u257 u258 u259 u260 u261 u262 u263 u264 u265 u266 u267 u268 u269 u270 u271 u272 u273 u274 u275 u276 u277 u278 u279 u280 u281 u282 u283 u284 u285 u286 u287 u288 u289 u290 u291 u292 u293 u294 u295 u296 u297 u298 u299 u300 u301 u302 u303 u304 u305 u306 u307 u308 u309 : Value}
    (w : World) (HI : Hid (Z.is w)) (HK : Hid (Keeps [Z.pk] w0 w)) (ke : Nat) (HKE : Hid (Z.E = (ke : Int))) (hke2 : ke < 4294967296)
    (HFP : Hid (∀ n, Z.P.v - 1 < BB ^ n → bval Z.LP < Z.P.v - 1 → Z.mP ≤ 8 * n)) (HFQ : Hid (∀ n, Z.Q.v - 1 < BB ^ n → bval Z.LQ < Z.Q.v - 1 → Z.mQ ≤ 8 * n))
    (HG : Hid (Z.P.v < Z.N.v → Z.Q.v < Z.N.v → Z.P.v * Z.Q.v % Z.N.v = 0 → 2 < Z.P.v → bval Z.LP < Z.P.v - 1 → Z.E.toNat * bval Z.LP % (Z.P.v - 1) = 1 → 2 < Z.Q.v → bval Z.LQ < Z.Q.v - 1 → Z.E.toNat * bval Z.LQ % (Z.Q.v - 1) = 1 → Z.Q.v % Z.P.v * Z.QI % Z.P.v = 1 → Z.D % (Z.P.v - 1) = bval Z.LP → Z.D % (Z.Q.v - 1) = bval Z.LQ → Z.P.v ≠ Z.Q.v → blen Z.N.v / 2 < blen (Z.P.v - Z.Q.v + (Z.Q.v - Z.P.v)) + 100 → blen Z.N.v / 2 < blen Z.D → PrivOk Z))
    (hZ : ∀ a w, Code.wp Tryz.prog (tail15) (bodyPost Tryz.prog Tryz.f54 (chkPost Z w0)) a w → Kk a w) :
    Code.wp Tryz.prog (reg15) (Exit.then Kk (bodyPost Tryz.prog Tryz.f54 (chkPost Z w0))) ⟨#[.pointer (some ⟨Z.pk, 0, none⟩), u1, u2, u3, u4, .pointer (some ⟨Z.N.m, 0, none⟩), .pointer (some ⟨Z.P.m, 0, none⟩), .pointer (some ⟨Z.Q.m, 0, none⟩), u8, u9, u10, u11, u12, u13, u14, u15, u16, u17, u18, u19, u20, u21, u22, u23, u24, u25, u26, u27, u28, u29, u30, u31, u32, u33, u34, u35, u36, u37, u38, u39, u40, u41, u42, u43, u44, u45, u46, u47, u48, u49, u50, u51, u52, u53, u54, u55, u56, u57, u58, u59, u60, u61, u62, u63, u64, u65, u66, u67, u68, u69, u70, u71, u72, u73, u74, u75, u76, u77, u78, u79, u80, u81, u82, u83, u84, u85, u86, u87, u88, u89, u90, u91, u92, u93, u94, u95, u96, u97, u98, u99, u100, u101, u102, u103, u104, u105, u106, u107, u108, u109, u110, u111, u112, u113, u114, u115, u116, u117, u118, u119, u120, u121, u122, u123, u124, u125, u126, u127, u128, u129, u130, u131, u132, u133, u134, u135, u136, u137, u138, u139, u140, u141, u142, u143, u144, u145, u146, u147, u148, u149, u150, u151, u152, u153, u154, u155, u156, u157, u158, u159, u160, u161, u162, u163, u164, u165, u166, u167, u168, u169, u170, u171, u172, u173, u174, u175, u176, u177, u178, u179, u180, u181, u182, u183, u184, u185, u186, u187, u188, u189, u190, u191, u192, u193, u194, u195, u196, u197, u198, u199, u200, u201, u202, u203, u204, u205, u206, u207, u208, u209, u210, u211, u212, u213, u214, u215, u216, u217, u218, u219, u220, u221, u222, u223, u224, u225, u226, u227, u228, u229, u230, u231, u232, u233, u234, u235, u236, u237, u238, u239, u240, u241, u242, u243, u244, u245, u246, u247, u248, u249, u250, u251, u252, u253, u254, u255, u256, u257, u258, u259, u260, u261, u262, u263, u264, u265, u266, u267, u268, u269, u270, u271, u272, u273, u274, u275, u276, u277, u278, u279, u280, u281, u282, u283, u284, u285, u286, u287, u288, u289, u290, u291, u292, u293, u294, u295, u296, u297, u298, u299, u300, u301, u302, u303, u304, u305, u306, u307, u308, u309], []⟩ w := by
  conv => arg 2; whnf
  have HB := HI; have HKB := HK
  have HT : Hid (Keeps [] w w) := Lib.hid (Keeps.refl _ _)
  go_wp2_with fail
  refine (newNat_any _).mono ?_
  rintro e wa ⟨p8, l8, rfl, hx, hp, hl, h1⟩
  have oN := HI.out.N.old hl
  have hnN := HI.out.N.npos
  go_wp2_with fail
  refine (ma_ExpandFor p8 l8 0 0 Z.N _ hx (HI.out.N.kept h1) (by omega)).mono ?_
  rintro e wb ⟨rfl, hx, h2⟩
  have h12 := h1.two hp hl h2
  go_wp2_with fail
  conv => arg 2; whnf
  go_wp2_with fail
  refine (ma_Nat Z.P _ (HI.out.P.kept h12)).mono ?_
  rintro e wc ⟨pa, la, rfl, hy, hpa, hla, h3⟩
  have h13 := h12.trans1 h3
  go_wp2_with fail
  refine (ma_Bytes pa la 32 Z.P.v Z.P _ hy (HI.out.P.kept h13) (Nat.le_refl _)).mono ?_
  rintro e wd ⟨⟨bb, O, rfl, _, hO, hOv⟩, h4⟩
  have h14 := h13.trans1 h4
  have hbl := blen_le_n HI.out.P.lt
  have hn31 := HI.out.P.n31
  have HOv := Lib.hid hOv
  clear hOv
  go_wp2_with fail
  refine (ma_SetBytes p8 l8 Z.N.n 0 Z.N _ _ _ O _ ((hx.kept h3).kept h4) (HI.out.N.kept h14) hO oN.2.2.1 (by omega)).mono ?_
  rintro e we ⟨hR, h5⟩
  rw [HOv.out] at hR
  have hs := h14.two hp hl h5
  have Hpp8 := Lib.hid hp; have Hlp8 := Lib.hid hl; have HOp8 := Lib.hid oN.2.2.1
  replace HI := Lib.hid (HI.out.kept hs); replace HK := Lib.hid (HK.out.trans hs (by simp)); replace HT := Lib.hid (HT.out.trans1 hs)
  clear hs
  clear hx hy hp hl h1 h2 h3 h4 h5 h12 h13 h14 hpa hla hO HOv oN hbl hn31 hnN
  rcases hR with ⟨f1, f2, rfl, hx⟩ | ⟨hno, t, x, rfl⟩
  rotate_left
  ·
    go_wp2_with fail
    refine (errors_New _ _).mono ?_
    rintro e wz ⟨⟨bz, rfl, _, _⟩, hz⟩
    have HIz := Lib.hid (HI.out.kept hz); have HKz := Lib.hid (HK.out.trans hz (by simp))
    clear hz
    go_wp2
    go_ret
    exact ⟨⟨_, rfl, .inr ⟨fun h => hno ⟨fit_of_lt h.pN HI.out.N.lt, h.pN⟩, _, _, rfl⟩⟩, HIz.out, HKz.out⟩
  have HFP' := Lib.hid f2
  have HX8 := Lib.hid hx
  clear f1 f2 hx
  go_wp2_with fail
  refine (newNat_any _).mono ?_
  rintro e wa ⟨p11, l11, rfl, hx, hp, hl, h1⟩
  have oN := HI.out.N.old hl
  have hnN := HI.out.N.npos
  go_wp2_with fail
  refine (ma_ExpandFor p11 l11 0 0 Z.N _ hx (HI.out.N.kept h1) (by omega)).mono ?_
  rintro e wb ⟨rfl, hx, h2⟩
  have h12 := h1.two hp hl h2
  go_wp2_with fail
  refine (ma_Nat Z.Q _ (HI.out.Q.kept h12)).mono ?_
  rintro e wc ⟨pa, la, rfl, hy, hpa, hla, h3⟩
  have h13 := h12.trans1 h3
  go_wp2_with fail
  refine (ma_Bytes pa la 32 Z.Q.v Z.Q _ hy (HI.out.Q.kept h13) (Nat.le_refl _)).mono ?_
  rintro e wd ⟨⟨bb, O, rfl, _, hO, hOv⟩, h4⟩
  have h14 := h13.trans1 h4
  have hbl := blen_le_n HI.out.Q.lt
  have hn31 := HI.out.Q.n31
  have HOv := Lib.hid hOv
  clear hOv
  go_wp2_with fail
  refine (ma_SetBytes p11 l11 Z.N.n 0 Z.N _ _ _ O _ ((hx.kept h3).kept h4) (HI.out.N.kept h14) hO oN.2.2.1 (by omega)).mono ?_
  rintro e we ⟨hR, h5⟩
  rw [HOv.out] at hR
  have hs := h14.two hp hl h5
  have Hpp11 := Lib.hid hp; have Hlp11 := Lib.hid hl; have HOp11 := Lib.hid oN.2.2.1
  replace HI := Lib.hid (HI.out.kept hs); replace HK := Lib.hid (HK.out.trans hs (by simp)); replace HT := Lib.hid (HT.out.trans1 hs)
  replace HX8 := Lib.hid (HX8.out.kept hs)
  clear hs
  clear hx hy hp hl h1 h2 h3 h4 h5 h12 h13 h14 hpa hla hO HOv oN hbl hn31 hnN
  rcases hR with ⟨f1, f2, rfl, hx⟩ | ⟨hno, t, x, rfl⟩
  rotate_left
  ·
    go_wp2_with fail
    refine (errors_New _ _).mono ?_
    rintro e wz ⟨⟨bz, rfl, _, _⟩, hz⟩
    have HIz := Lib.hid (HI.out.kept hz); have HKz := Lib.hid (HK.out.trans hz (by simp))
    clear hz
    go_wp2
    go_ret
    exact ⟨⟨_, rfl, .inr ⟨fun h => hno ⟨fit_of_lt h.qN HI.out.N.lt, h.qN⟩, _, _, rfl⟩⟩, HIz.out, HKz.out⟩
  have HFQ' := Lib.hid f2
  have HX11 := Lib.hid hx
  clear f1 f2 hx
  go_wp2_with fail
  have hnN := HI.out.N.n31
  refine (ma_Mul p8 l8 32 Z.P.v p11 l11 32 Z.Q.v Z.N _ HX8.out HX11.out HI.out.N HOp8.out (by omega)).mono ?_
  rintro e wf ⟨rfl, hx, h5⟩
  have hk := HT.out.two Hpp8.out Hlp8.out h5
  replace HI := Lib.hid (HB.out.kept hk); replace HK := Lib.hid (HKB.out.trans hk (by simp))
  clear h5 hk
  go_wp2_with fail
  refine (nat_IsZero p8 l8 _ 32 _ _ hx (by omega)).mono ?_
  rintro e wg ⟨r, rfl, hr, rfl⟩
  rcases hr.case with ⟨rfl, hq⟩ | ⟨rfl, hq⟩
  · have HQ := Lib.hid hq
    clear hq hr hx
    go_wp2_with fail
    refine (errors_New _ _).mono ?_
    rintro e wz ⟨⟨bz, rfl, _, _⟩, hz⟩
    have HIz := Lib.hid (HI.out.kept hz); have HKz := Lib.hid (HK.out.trans hz (by simp))
    clear hz
    go_wp2
    go_ret
    exact ⟨⟨_, rfl, .inr ⟨fun h => HQ.out h.pq, _, _, rfl⟩⟩, HIz.out, HKz.out⟩
  · have HQ := Lib.hid hq
    clear hq hr hx
    go_upto_region 25 with fail
    exact chk25 Z w0 _ HI HK ke HKE hke2 HFP HFQ (Lib.hid (HG.out HFP'.out HFQ'.out HQ.out)) (by assumption)

end Go.Proofs.YtnfjmngchapdnaaGreatDoor

/- rsa: checkPrivateKey, of a key with what is computed ahead. -/
namespace Go.Proofs.YtnfjmngchapdnaaGreatDoor
open Go.RowKit

set_option maxRecDepth 1000000 in
set_option maxHeartbeats 4000000 in
theorem checkPriv_any (Z : PK) (w : World) (h : Z.is w) (hfP : ∀ n, Z.P.v - 1 < BB ^ n → bval Z.LP < Z.P.v - 1 → Z.mP ≤ 8 * n) (hfQ : ∀ n, Z.Q.v - 1 < BB ^ n → bval Z.LQ < Z.Q.v - 1 → Z.mQ ≤ 8 * n) :
    Calls Tryz.prog 54 #[.pointer (some ⟨Z.pk, 0, none⟩)] w (chkPost Z w) := by
  have HFP := Lib.hid hfP; have HFQ := Lib.hid hfQ
  clear hfP hfQ
  obtain ⟨f, d8, f8⟩ := h.c8
  have hI1 := h.store true
  have hK1 : Keeps [Z.pk] w (w.setCell ⟨Z.pk, 8, none⟩ (.bool true)) := (Keeps.refl _ _).setCell (by simp) _
  obtain ⟨w1, hw1⟩ : ∃ w1, w1 = w.setCell ⟨Z.pk, 8, none⟩ (.bool true) := ⟨_, rfl⟩
  rw [← hw1] at hI1 hK1
  have HI := Lib.hid hI1; have HK := Lib.hid hK1
  clear hI1 hK1 h
  go_enter Tryz.func54, Tryz.ntmps54
  go_wp2_with fail
  rw [← hw1]
  clear hw1 d8 f8
  refine (checkPublicKey_c Z.pk Z.N.m Z.N.p Z.N.l Z.N.r Z.N.s Z.N.n Z.N.v Z.E _ HI.out.pub HI.out.N HI.out.E).mono ?_
  rintro e w2 ⟨⟨b, v, rfl, ⟨hok, rfl⟩ | ⟨hno, t, x, rfl⟩⟩, hk2⟩
  rotate_left
  · have HI2 := Lib.hid (HI.out.kept hk2); have HK2 := Lib.hid (HK.out.trans hk2 (by simp))
    clear hk2
    go_wp2
    go_ret
    exact ⟨⟨_, rfl, .inr ⟨fun h => hno h.pub, _, _, rfl⟩⟩, HI2.out, HK2.out⟩
  have HI2 := Lib.hid (HI.out.kept hk2); have HK2 := Lib.hid (HK.out.trans hk2 (by simp))
  clear hk2 HI HK
  go_upto_if 42 with fail
  go_cut [] (fun wx => Hid (Z.is wx) ∧ Hid (Keeps [Z.pk] w wx))
  case first =>
    rcases b with _ | _
    · obtain ⟨f, d8, f8⟩ := HI2.out.c8
      go_wp2_with fail
      go_meet
      case rel => exact ⟨Lib.hid (HI2.out.store false), Lib.hid (HK2.out.setCell (by simp) _)⟩
    · go_wp2_with fail
      go_meet
      case rel => exact ⟨HI2, HK2⟩
  case rest =>
    obtain ⟨HI, HK⟩ := hcut
    clear HI2 HK2
    have hE := hok.2
    obtain ⟨ke, hke⟩ : ∃ ke : Nat, Z.E = (ke : Int) := ⟨Z.E.toNat, by omega⟩
    have hke2 : ke < 4294967296 := by omega
    have HOK := Lib.hid hok; have HKE := Lib.hid hke
    clear hok hke hE
    have q22 : ∀ (w : World) (a : Option Addr) (n c n' c' : Nat), (binOp .eql 22 (.slice a n c) (.slice none n' c')).run Tryz.prog w = .ok (.bool a.isNone) w := fun w a n c n' c' => Lib.run_eql_slice_nil w _ _ a n c n' c' und_bytes
    have c5 := HI.out.c5
    have c0 := HI.out.c0
    have c3 := HI.out.c3
    have c4 := HI.out.c4
    go_wp2_with fail
    refine (ma_BitLen Z.P _ HI.out.P).mono ?_
    rintro e w2 ⟨rfl, rfl⟩
    go_wp2_with fail
    refine (ma_BitLen Z.Q _ HI.out.Q).mono ?_
    rintro e w2 ⟨rfl, rfl⟩
    go_upto_if 71 with fail
    clear c5 c0 c3 c4 q22
    go_cut [] (fun wx => Hid (Z.is wx) ∧ Hid (Keeps [Z.pk] w wx))
    case first =>
      obtain ⟨f, d8, f8⟩ := HI.out.c8
      by_cases hbb : blen Z.P.v = blen Z.Q.v
      · have hb1 : (blen Z.P.v == blen Z.Q.v) = true := by simp [hbb]
        clear hbb
        go_wp2_with fail
        all_goals go_meet
        all_goals
          case rel => first | exact ⟨HI, HK⟩ | exact ⟨Lib.hid (HI.out.store false), Lib.hid (HK.out.setCell (by simp) _)⟩
      · go_wp2_with fail
        all_goals go_meet
        all_goals
          case rel => first | exact ⟨HI, HK⟩ | exact ⟨Lib.hid (HI.out.store false), Lib.hid (HK.out.setCell (by simp) _)⟩
    case rest =>
      obtain ⟨HI', HK'⟩ := hcut
      clear HI HK
      go_upto_region 15 with fail
      exact chk15 Z w _ HI' HK' ke HKE hke2 HFP HFQ (Lib.hid (PrivOk.mk HOK.out)) (by assumption)

end Go.Proofs.YtnfjmngchapdnaaGreatDoor
