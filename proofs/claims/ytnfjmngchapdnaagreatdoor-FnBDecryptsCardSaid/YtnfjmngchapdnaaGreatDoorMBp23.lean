import Derived.Test.YtnfjmngchapdnaaGreatDoorMBp24
/- spec.BPrivateOf, from its region 23 on. -/
namespace Go.Proofs.YtnfjmngchapdnaaGreatDoor
open Go.RowKit

set_option maxRecDepth 1000000 in
set_option maxHeartbeats 8000000 in
theorem bp23 {Kk : Act → World → Prop} (w0 w : World) (xb : Nat) (a0 a1 a2 a3 a4 a5 a6 : Option Addr) (n0 c0 n1 c1 n2 c2 n3 c3 n4 c4 n5 c5 n6 c6 : Nat) (NV DV PV QV XV YV IV : Nat) (ok said : Prop) (hsaid : said) (hxb : w0.heap.size ≤ xb) {u0 u1 u2 u3 u5 u6 u7 u12 u13 u14 u15 u16 u17 u18 u19 u20 u21 u22 u23 u24 u25 u26 u27 u28 u29 u30 u31 u32 u33 u34 u35 u36 u37 u38 u39 u40 u41 u42 u43 u44 u45 u46 u47 u48 u49 u50 u51 u52 u53 u54 u55 u56 u57 u58 u59 u60 u61 u62 u63 u64 u65 u66 u67 u68 u69 u70 u71 u72 u73 u74 u75 u76 u77 u78 u79 u80 u81 u82 u83 u84 u85 u86 u87 u88 u89 u90 u91 u92 u93 u94 u95 u96 u97 u98 u99 u100 u101 u102 u103 u104 u105 u106 u107 u108 u109 u110 u111 u112 u113 u114 u115 u116 u117 u118 u119 u120 u121 u122 u123 u124 u125 u126 u127 u128 u129 u130 u131 u132 u133 u134 u135 u136 u137 u138 u139 u140 u141 u142 u143 u144 u145 u146 u147 u148 u149 u150 u151 u152 u153 u154 u155 u156 u157 u158 u159 u160 u161 u162 u163 u164 u165 u166 u167 u168 u169 u170 u171 u172 u173 u174 u175 u176 u177 u178 u179 u180 u181 u182 u183 u184 u185 u186 u187 u188 u189 u190 u191 u192 u193 u194 u195 u196 u197 u198 u199 u200 u201 u202 u203 u204 u205 u206 u207 u208 u209 u210 u211 u212 u213 u214 u215 u216 u217 u218 u219 u220 u221 u222 u223 u224 u225 u226 u227 u228 u229 u230 u231 u232 u233 u234 u235 u236 u237 u238 u239 u240 u241 u242 u243 u244 u245 u246 u247 u248 : Value}
    (HX : Hid (w.heap[xb]? = some (.cells #[.slice a0 n0 c0, .slice a1 n1 c1, .slice a2 n2 c2, .slice a3 n3 c3, .slice a4 n4 c4, .slice a5 n5 c5, .slice a6 n6 c6] 41 (0, 0)))) (HK : Hid (Keeps [] w0 w)) (H0 : Hid (Num 63 w a0 n0 c0 NV)) (H1 : Hid (Num 63 w a1 n1 c1 DV)) (H2 : Hid (Num 63 w a2 n2 c2 PV)) (H3 : Hid (Num 63 w a3 n3 c3 QV)) (H4 : Hid (Num 63 w a4 n4 c4 XV)) (H5 : Hid (Num 63 w a5 n5 c5 YV)) (H6 : Hid (Num 63 w a6 n6 c6 IV))
    (ae : Option Addr) (ne ce ke : Nat) (HE : Hid (Num 1 w ae ne ce ke)) (aa a8 a9 : Option Addr) (na ca n8 c8 n9 c9 z : Nat) (HA : Hid (Num 63 w aa na ca z)) (HP1 : Hid (Num 63 w a8 n8 c8 (PV - 1))) (HQ1 : Hid (Num 63 w a9 n9 c9 (QV - 1))) (HP3 : Hid (2 < PV)) (HQ3 : Hid (2 < QV)) (HN3 : Hid (0 < NV))
    (HG : Hid (ok ↔ PV < NV ∧ QV < NV ∧ PV * QV % NV = 0 ∧ ke * XV % (PV - 1) = 1 ∧ ke * YV % (QV - 1) = 1 ∧ IV * QV % PV = 1 ∧ DV % (PV - 1) = XV ∧ DV % (QV - 1) = YV ∧ IV < PV ∧ (blen NV / 2 < blen z + 100 ∧ 0 < blen z) ∧ blen NV / 2 < blen DV))
    (hZ : ∀ a w, Code.wp Tryz.prog (tailB23) (bodyPost Tryz.prog Tryz.f14 (bpPost w0 ok said NV DV PV QV XV YV IV)) a w → Kk a w) :
    Code.wp Tryz.prog (regB23) (Exit.then Kk (bodyPost Tryz.prog Tryz.f14 (bpPost w0 ok said NV DV PV QV XV YV IV))) ⟨#[u0, u1, u2, u3, .pointer (some ⟨xb, 0, none⟩), u5, u6, u7, .slice a8 n8 c8, .slice a9 n9 c9, .slice ae ne ce, .slice aa na ca, u12, u13, u14, u15, u16, u17, u18, u19, u20, u21, u22, u23, u24, u25, u26, u27, u28, u29, u30, u31, u32, u33, u34, u35, u36, u37, u38, u39, u40, u41, u42, u43, u44, u45, u46, u47, u48, u49, u50, u51, u52, u53, u54, u55, u56, u57, u58, u59, u60, u61, u62, u63, u64, u65, u66, u67, u68, u69, u70, u71, u72, u73, u74, u75, u76, u77, u78, u79, u80, u81, u82, u83, u84, u85, u86, u87, u88, u89, u90, u91, u92, u93, u94, u95, u96, u97, u98, u99, u100, u101, u102, u103, u104, u105, u106, u107, u108, u109, u110, u111, u112, u113, u114, u115, u116, u117, u118, u119, u120, u121, u122, u123, u124, u125, u126, u127, u128, u129, u130, u131, u132, u133, u134, u135, u136, u137, u138, u139, u140, u141, u142, u143, u144, u145, u146, u147, u148, u149, u150, u151, u152, u153, u154, u155, u156, u157, u158, u159, u160, u161, u162, u163, u164, u165, u166, u167, u168, u169, u170, u171, u172, u173, u174, u175, u176, u177, u178, u179, u180, u181, u182, u183, u184, u185, u186, u187, u188, u189, u190, u191, u192, u193, u194, u195, u196, u197, u198, u199, u200, u201, u202, u203, u204, u205, u206, u207, u208, u209, u210, u211, u212, u213, u214, u215, u216, u217, u218, u219, u220, u221, u222, u223, u224, u225, u226, u227, u228, u229, u230, u231, u232, u233, u234, u235, u236, u237, u238, u239, u240, u241, u242, u243, u244, u245, u246, u247, u248], []⟩ w := by
  conv => arg 2; whnf
  have hP3 := HP3.out; have hQ3 := HQ3.out; have hN3 := HN3.out
  by_cases q1 : PV < NV
  rotate_left
  · have HF := Lib.hid q1
    refine wp_region_txt [0,0,0,0,2,0,0,0,0,0,0,0,0,0,0,0,0,0,0,0,0,0,0,0,0,0,0] (fun w' => w'.cell? ⟨xb, 0, none⟩ = some (.slice a0 n0 c0) ∧ w'.cell? ⟨xb, 1, none⟩ = some (.slice a1 n1 c1) ∧ w'.cell? ⟨xb, 2, none⟩ = some (.slice a2 n2 c2) ∧ w'.cell? ⟨xb, 3, none⟩ = some (.slice a3 n3 c3) ∧ w'.cell? ⟨xb, 4, none⟩ = some (.slice a4 n4 c4) ∧ w'.cell? ⟨xb, 5, none⟩ = some (.slice a5 n5 c5) ∧ w'.cell? ⟨xb, 6, none⟩ = some (.slice a6 n6 c6)) (by kernel_rfl) (by kernel_rfl) (key7 (blk_keeps HX.out (Keeps.refl [] w).drew (by simp))) ?_
    simp only [withMarks]
    repeat (first
      | ((with_reducible refine txt_v (v := ?_) ?_ ?_); (any_goals ((with_reducible refine Yl.mk ?_ ?_); rfl; intro w hSw; (go_simp <;> (try go_bits) <;> (repeat (first | rw [if_pos (by omega)] | rw [if_neg (by omega)])) <;> with_reducible rfl))); try simp only [Act.put, List.setIfInBounds_toArray, List.set_cons_zero, List.set_cons_succ])
      | ((with_reducible refine txt_u ?_ ?_); rfl; try simp only [Act.put, List.setIfInBounds_toArray, List.set_cons_zero, List.set_cons_succ])
      | ((with_reducible refine txt_l (v := ?_) ?_ ?_); (any_goals ((with_reducible refine Reads.mk ?_ ?_); rfl; (go_simp <;> (try go_bits) <;> (repeat (first | rw [if_pos (by omega)] | rw [if_neg (by omega)])) <;> with_reducible rfl))); try simp only [Act.put, List.setIfInBounds_toArray, List.set_cons_zero, List.set_cons_succ])
      | ((with_reducible refine txt_e ?_ ?_); rfl; intro K hK; go_simp; (first | (refine hK _ _ (by first | exact key7 (blk_keeps HX.out ((Keeps.refl [] w).drew.trans1 h1) (by simp)) | exact key7 (blk_keeps HX.out (Keeps.refl [] w).drew (by simp))) ?_) | ((first | (go_at_call 19; (with_reducible refine Calls.mono (num_nlt (H2.out.kept (Keeps.refl [] w).drew) (H0.out.kept (Keeps.refl [] w).drew) (by omega) (by omega) q1) ?_); rintro e1 w1 ⟨⟨o1, rfl, fo, _⟩, h1⟩)); dsimp only; refine hK _ _ (by first | exact key7 (blk_keeps HX.out ((Keeps.refl [] w).drew.trans1 h1) (by simp)) | exact key7 (blk_keeps HX.out (Keeps.refl [] w).drew (by simp))) ?_)); clear hK K; try simp only [Act.put, List.setIfInBounds_toArray, List.set_cons_zero, List.set_cons_succ]))
    refine txt_nil ?_
    have hs := ((Keeps.refl [] w).drew.trans1 h1)
    have hT := HK.out.trans1 hs
    have hX := blk_keeps HX.out hs (by simp)
    go_wp2_with fail
    conv => arg 2; whnf
    go_upto_region 24 with fail
    exact bp24 w0 _ xb a0 a1 a2 a3 a4 a5 a6 n0 c0 n1 c1 n2 c2 n3 c3 n4 c4 n5 c5 n6 c6 NV DV PV QV XV YV IV ok said hsaid hxb (Lib.hid hX) (Lib.hid hT) (Lib.hid (H0.out.kept hs)) (Lib.hid (H1.out.kept hs)) (Lib.hid (H2.out.kept hs)) (Lib.hid (H3.out.kept hs)) (Lib.hid (H4.out.kept hs)) (Lib.hid (H5.out.kept hs)) (Lib.hid (H6.out.kept hs)) ae ne ce ke (Lib.hid (HE.out.kept hs)) (PV < NV ∧ QV < NV ∧ PV * QV % NV = 0) false (Lib.hid ⟨fun h => by simp at h, fun h => absurd h.1 HF.out⟩) aa a8 a9 na ca n8 c8 n9 c9 z (Lib.hid (HA.out.kept hs)) (Lib.hid (HP1.out.kept hs)) (Lib.hid (HQ1.out.kept hs)) HP3 HQ3 HN3 (Lib.hid (by have := HG.out; simpa only [and_assoc] using this)) (by assumption)
  have Hq1 := Lib.hid q1
  by_cases q2 : QV < NV
  rotate_left
  · have HF := Lib.hid q2
    refine wp_region_txt [0,0,0,0,2,0,0,0,0,0,0,2,0,0,0,0,0,0,0,0,0,0,0,0,0,0,0] (fun w' => w'.cell? ⟨xb, 0, none⟩ = some (.slice a0 n0 c0) ∧ w'.cell? ⟨xb, 1, none⟩ = some (.slice a1 n1 c1) ∧ w'.cell? ⟨xb, 2, none⟩ = some (.slice a2 n2 c2) ∧ w'.cell? ⟨xb, 3, none⟩ = some (.slice a3 n3 c3) ∧ w'.cell? ⟨xb, 4, none⟩ = some (.slice a4 n4 c4) ∧ w'.cell? ⟨xb, 5, none⟩ = some (.slice a5 n5 c5) ∧ w'.cell? ⟨xb, 6, none⟩ = some (.slice a6 n6 c6)) (by kernel_rfl) (by kernel_rfl) (key7 (blk_keeps HX.out (Keeps.refl [] w).drew (by simp))) ?_
    simp only [withMarks]
    repeat (first
      | ((with_reducible refine txt_v (v := ?_) ?_ ?_); (any_goals ((with_reducible refine Yl.mk ?_ ?_); rfl; intro w hSw; (go_simp <;> (try go_bits) <;> (repeat (first | rw [if_pos (by omega)] | rw [if_neg (by omega)])) <;> with_reducible rfl))); try simp only [Act.put, List.setIfInBounds_toArray, List.set_cons_zero, List.set_cons_succ])
      | ((with_reducible refine txt_u ?_ ?_); rfl; try simp only [Act.put, List.setIfInBounds_toArray, List.set_cons_zero, List.set_cons_succ])
      | ((with_reducible refine txt_l (v := ?_) ?_ ?_); (any_goals ((with_reducible refine Reads.mk ?_ ?_); rfl; (go_simp <;> (try go_bits) <;> (repeat (first | rw [if_pos (by omega)] | rw [if_neg (by omega)])) <;> with_reducible rfl))); try simp only [Act.put, List.setIfInBounds_toArray, List.set_cons_zero, List.set_cons_succ])
      | ((with_reducible refine txt_e ?_ ?_); rfl; intro K hK; go_simp; (first | (refine hK _ _ (by first | exact key7 (blk_keeps HX.out (((Keeps.refl [] w).drew.trans1 h1).trans1 h2) (by simp)) | exact key7 (blk_keeps HX.out ((Keeps.refl [] w).drew.trans1 h1) (by simp)) | exact key7 (blk_keeps HX.out (Keeps.refl [] w).drew (by simp))) ?_) | ((first | (go_at_call 19; (with_reducible refine Calls.mono (num_nlt (H3.out.kept ((Keeps.refl [] w).drew.trans1 h1)) (H0.out.kept ((Keeps.refl [] w).drew.trans1 h1)) (by omega) (by omega) q2) ?_); rintro e2 w2 ⟨⟨o1, rfl, fo, _⟩, h2⟩) | (go_at_call 19; (with_reducible refine Calls.mono (num_lt (H2.out.kept (Keeps.refl [] w).drew) (H0.out.kept (Keeps.refl [] w).drew) (by omega) (by omega) q1) ?_); rintro e1 w1 ⟨rfl, h1⟩)); dsimp only; refine hK _ _ (by first | exact key7 (blk_keeps HX.out (((Keeps.refl [] w).drew.trans1 h1).trans1 h2) (by simp)) | exact key7 (blk_keeps HX.out ((Keeps.refl [] w).drew.trans1 h1) (by simp)) | exact key7 (blk_keeps HX.out (Keeps.refl [] w).drew (by simp))) ?_)); clear hK K; try simp only [Act.put, List.setIfInBounds_toArray, List.set_cons_zero, List.set_cons_succ]))
    refine txt_nil ?_
    have hs := (((Keeps.refl [] w).drew.trans1 h1).trans1 h2)
    have hT := HK.out.trans1 hs
    have hX := blk_keeps HX.out hs (by simp)
    go_wp2_with fail
    conv => arg 2; whnf
    go_upto_region 24 with fail
    exact bp24 w0 _ xb a0 a1 a2 a3 a4 a5 a6 n0 c0 n1 c1 n2 c2 n3 c3 n4 c4 n5 c5 n6 c6 NV DV PV QV XV YV IV ok said hsaid hxb (Lib.hid hX) (Lib.hid hT) (Lib.hid (H0.out.kept hs)) (Lib.hid (H1.out.kept hs)) (Lib.hid (H2.out.kept hs)) (Lib.hid (H3.out.kept hs)) (Lib.hid (H4.out.kept hs)) (Lib.hid (H5.out.kept hs)) (Lib.hid (H6.out.kept hs)) ae ne ce ke (Lib.hid (HE.out.kept hs)) (PV < NV ∧ QV < NV ∧ PV * QV % NV = 0) false (Lib.hid ⟨fun h => by simp at h, fun h => absurd h.2.1 HF.out⟩) aa a8 a9 na ca n8 c8 n9 c9 z (Lib.hid (HA.out.kept hs)) (Lib.hid (HP1.out.kept hs)) (Lib.hid (HQ1.out.kept hs)) HP3 HQ3 HN3 (Lib.hid (by have := HG.out; simpa only [and_assoc] using this)) (by assumption)
  have Hq2 := Lib.hid q2
  by_cases q3 : PV * QV % NV = 0
  rotate_left
  · have HF := Lib.hid q3
    refine wp_region_txt [0,0,0,0,2,0,0,0,0,0,0,2,0,0,0,0,0,0,0,2,0,0,2,0,0,0,0] (fun w' => w'.cell? ⟨xb, 0, none⟩ = some (.slice a0 n0 c0) ∧ w'.cell? ⟨xb, 1, none⟩ = some (.slice a1 n1 c1) ∧ w'.cell? ⟨xb, 2, none⟩ = some (.slice a2 n2 c2) ∧ w'.cell? ⟨xb, 3, none⟩ = some (.slice a3 n3 c3) ∧ w'.cell? ⟨xb, 4, none⟩ = some (.slice a4 n4 c4) ∧ w'.cell? ⟨xb, 5, none⟩ = some (.slice a5 n5 c5) ∧ w'.cell? ⟨xb, 6, none⟩ = some (.slice a6 n6 c6)) (by kernel_rfl) (by kernel_rfl) (key7 (blk_keeps HX.out (Keeps.refl [] w).drew (by simp))) ?_
    simp only [withMarks]
    repeat (first
      | ((with_reducible refine txt_v (v := ?_) ?_ ?_); (any_goals ((with_reducible refine Yl.mk ?_ ?_); rfl; intro w hSw; (go_simp <;> (try go_bits) <;> (repeat (first | rw [if_pos (by omega)] | rw [if_neg (by omega)])) <;> with_reducible rfl))); try simp only [Act.put, List.setIfInBounds_toArray, List.set_cons_zero, List.set_cons_succ])
      | ((with_reducible refine txt_u ?_ ?_); rfl; try simp only [Act.put, List.setIfInBounds_toArray, List.set_cons_zero, List.set_cons_succ])
      | ((with_reducible refine txt_l (v := ?_) ?_ ?_); (any_goals ((with_reducible refine Reads.mk ?_ ?_); rfl; (go_simp <;> (try go_bits) <;> (repeat (first | rw [if_pos (by omega)] | rw [if_neg (by omega)])) <;> with_reducible rfl))); try simp only [Act.put, List.setIfInBounds_toArray, List.set_cons_zero, List.set_cons_succ])
      | ((with_reducible refine txt_e ?_ ?_); rfl; intro K hK; go_simp; (first | (refine hK _ _ (by first | exact key7 (blk_keeps HX.out (((((Keeps.refl [] w).drew.trans1 h1).trans1 h2).trans1 h3).trans1 h4) (by simp)) | exact key7 (blk_keeps HX.out ((((Keeps.refl [] w).drew.trans1 h1).trans1 h2).trans1 h3) (by simp)) | exact key7 (blk_keeps HX.out (((Keeps.refl [] w).drew.trans1 h1).trans1 h2) (by simp)) | exact key7 (blk_keeps HX.out ((Keeps.refl [] w).drew.trans1 h1) (by simp)) | exact key7 (blk_keeps HX.out (Keeps.refl [] w).drew (by simp))) ?_) | ((first | (go_at_call 32; (with_reducible refine Calls.mono (num_rest (hy3) (H0.out.kept ((((Keeps.refl [] w).drew.trans1 h1).trans1 h2).trans1 h3)) (by omega) (by omega) (by omega)) ?_); rintro e4 w4 ⟨⟨ax3, nx3, cx3, rfl, hx3⟩, h4⟩; have fx := hx3.pos q3; have fy : ((nx3 : Int) == 0) = false := by simpa using fx) | (go_at_call 33; (with_reducible refine Calls.mono (num_prod (H2.out.kept (((Keeps.refl [] w).drew.trans1 h1).trans1 h2)) (H3.out.kept (((Keeps.refl [] w).drew.trans1 h1).trans1 h2)) (by omega) (by omega)) ?_); rintro e3 w3 ⟨⟨ay3, ny3, cy3, rfl, hy3⟩, h3⟩) | (go_at_call 19; (with_reducible refine Calls.mono (num_lt (H3.out.kept ((Keeps.refl [] w).drew.trans1 h1)) (H0.out.kept ((Keeps.refl [] w).drew.trans1 h1)) (by omega) (by omega) q2) ?_); rintro e2 w2 ⟨rfl, h2⟩) | (go_at_call 19; (with_reducible refine Calls.mono (num_lt (H2.out.kept (Keeps.refl [] w).drew) (H0.out.kept (Keeps.refl [] w).drew) (by omega) (by omega) q1) ?_); rintro e1 w1 ⟨rfl, h1⟩)); dsimp only; refine hK _ _ (by first | exact key7 (blk_keeps HX.out (((((Keeps.refl [] w).drew.trans1 h1).trans1 h2).trans1 h3).trans1 h4) (by simp)) | exact key7 (blk_keeps HX.out ((((Keeps.refl [] w).drew.trans1 h1).trans1 h2).trans1 h3) (by simp)) | exact key7 (blk_keeps HX.out (((Keeps.refl [] w).drew.trans1 h1).trans1 h2) (by simp)) | exact key7 (blk_keeps HX.out ((Keeps.refl [] w).drew.trans1 h1) (by simp)) | exact key7 (blk_keeps HX.out (Keeps.refl [] w).drew (by simp))) ?_)); clear hK K; try simp only [Act.put, List.setIfInBounds_toArray, List.set_cons_zero, List.set_cons_succ]))
    refine txt_nil ?_
    have hs := (((((Keeps.refl [] w).drew.trans1 h1).trans1 h2).trans1 h3).trans1 h4)
    have hT := HK.out.trans1 hs
    have hX := blk_keeps HX.out hs (by simp)
    go_wp2_with fail
    conv => arg 2; whnf
    go_upto_region 24 with fail
    exact bp24 w0 _ xb a0 a1 a2 a3 a4 a5 a6 n0 c0 n1 c1 n2 c2 n3 c3 n4 c4 n5 c5 n6 c6 NV DV PV QV XV YV IV ok said hsaid hxb (Lib.hid hX) (Lib.hid hT) (Lib.hid (H0.out.kept hs)) (Lib.hid (H1.out.kept hs)) (Lib.hid (H2.out.kept hs)) (Lib.hid (H3.out.kept hs)) (Lib.hid (H4.out.kept hs)) (Lib.hid (H5.out.kept hs)) (Lib.hid (H6.out.kept hs)) ae ne ce ke (Lib.hid (HE.out.kept hs)) (PV < NV ∧ QV < NV ∧ PV * QV % NV = 0) false (Lib.hid ⟨fun h => by simp at h, fun h => absurd h.2.2 HF.out⟩) aa a8 a9 na ca n8 c8 n9 c9 z (Lib.hid (HA.out.kept hs)) (Lib.hid (HP1.out.kept hs)) (Lib.hid (HQ1.out.kept hs)) HP3 HQ3 HN3 (Lib.hid (by have := HG.out; simpa only [and_assoc] using this)) (by assumption)
  have Hq3 := Lib.hid q3
  refine wp_region_txt [0,0,0,0,2,0,0,0,0,0,0,2,0,0,0,0,0,0,0,2,0,0,2,0,0,0,0] (fun w' => w'.cell? ⟨xb, 0, none⟩ = some (.slice a0 n0 c0) ∧ w'.cell? ⟨xb, 1, none⟩ = some (.slice a1 n1 c1) ∧ w'.cell? ⟨xb, 2, none⟩ = some (.slice a2 n2 c2) ∧ w'.cell? ⟨xb, 3, none⟩ = some (.slice a3 n3 c3) ∧ w'.cell? ⟨xb, 4, none⟩ = some (.slice a4 n4 c4) ∧ w'.cell? ⟨xb, 5, none⟩ = some (.slice a5 n5 c5) ∧ w'.cell? ⟨xb, 6, none⟩ = some (.slice a6 n6 c6)) (by kernel_rfl) (by kernel_rfl) (key7 (blk_keeps HX.out (Keeps.refl [] w).drew (by simp))) ?_
  simp only [withMarks]
  repeat (first
    | ((with_reducible refine txt_v (v := ?_) ?_ ?_); (any_goals ((with_reducible refine Yl.mk ?_ ?_); rfl; intro w hSw; (go_simp <;> (try go_bits) <;> (repeat (first | rw [if_pos (by omega)] | rw [if_neg (by omega)])) <;> with_reducible rfl))); try simp only [Act.put, List.setIfInBounds_toArray, List.set_cons_zero, List.set_cons_succ])
    | ((with_reducible refine txt_u ?_ ?_); rfl; try simp only [Act.put, List.setIfInBounds_toArray, List.set_cons_zero, List.set_cons_succ])
    | ((with_reducible refine txt_l (v := ?_) ?_ ?_); (any_goals ((with_reducible refine Reads.mk ?_ ?_); rfl; (go_simp <;> (try go_bits) <;> (repeat (first | rw [if_pos (by omega)] | rw [if_neg (by omega)])) <;> with_reducible rfl))); try simp only [Act.put, List.setIfInBounds_toArray, List.set_cons_zero, List.set_cons_succ])
    | ((with_reducible refine txt_e ?_ ?_); rfl; intro K hK; go_simp; (first | (refine hK _ _ (by first | exact key7 (blk_keeps HX.out (((((Keeps.refl [] w).drew.trans1 h1).trans1 h2).trans1 h3).trans1 h4) (by simp)) | exact key7 (blk_keeps HX.out ((((Keeps.refl [] w).drew.trans1 h1).trans1 h2).trans1 h3) (by simp)) | exact key7 (blk_keeps HX.out (((Keeps.refl [] w).drew.trans1 h1).trans1 h2) (by simp)) | exact key7 (blk_keeps HX.out ((Keeps.refl [] w).drew.trans1 h1) (by simp)) | exact key7 (blk_keeps HX.out (Keeps.refl [] w).drew (by simp))) ?_) | ((first | (go_at_call 32; (with_reducible refine Calls.mono (num_rest (hy3) (H0.out.kept ((((Keeps.refl [] w).drew.trans1 h1).trans1 h2).trans1 h3)) (by omega) (by omega) (by omega)) ?_); rintro e4 w4 ⟨⟨ax3, nx3, cx3, rfl, hx3⟩, h4⟩; obtain rfl : nx3 = 0 := Num.zero (q3 ▸ hx3)) | (go_at_call 33; (with_reducible refine Calls.mono (num_prod (H2.out.kept (((Keeps.refl [] w).drew.trans1 h1).trans1 h2)) (H3.out.kept (((Keeps.refl [] w).drew.trans1 h1).trans1 h2)) (by omega) (by omega)) ?_); rintro e3 w3 ⟨⟨ay3, ny3, cy3, rfl, hy3⟩, h3⟩) | (go_at_call 19; (with_reducible refine Calls.mono (num_lt (H3.out.kept ((Keeps.refl [] w).drew.trans1 h1)) (H0.out.kept ((Keeps.refl [] w).drew.trans1 h1)) (by omega) (by omega) q2) ?_); rintro e2 w2 ⟨rfl, h2⟩) | (go_at_call 19; (with_reducible refine Calls.mono (num_lt (H2.out.kept (Keeps.refl [] w).drew) (H0.out.kept (Keeps.refl [] w).drew) (by omega) (by omega) q1) ?_); rintro e1 w1 ⟨rfl, h1⟩)); dsimp only; refine hK _ _ (by first | exact key7 (blk_keeps HX.out (((((Keeps.refl [] w).drew.trans1 h1).trans1 h2).trans1 h3).trans1 h4) (by simp)) | exact key7 (blk_keeps HX.out ((((Keeps.refl [] w).drew.trans1 h1).trans1 h2).trans1 h3) (by simp)) | exact key7 (blk_keeps HX.out (((Keeps.refl [] w).drew.trans1 h1).trans1 h2) (by simp)) | exact key7 (blk_keeps HX.out ((Keeps.refl [] w).drew.trans1 h1) (by simp)) | exact key7 (blk_keeps HX.out (Keeps.refl [] w).drew (by simp))) ?_)); clear hK K; try simp only [Act.put, List.setIfInBounds_toArray, List.set_cons_zero, List.set_cons_succ]))
  refine txt_nil ?_
  have hs := (((((Keeps.refl [] w).drew.trans1 h1).trans1 h2).trans1 h3).trans1 h4)
  have hT := HK.out.trans1 hs
  have hX := blk_keeps HX.out hs (by simp)
  go_wp2_with fail
  conv => arg 2; whnf
  go_upto_region 24 with fail
  exact bp24 w0 _ xb a0 a1 a2 a3 a4 a5 a6 n0 c0 n1 c1 n2 c2 n3 c3 n4 c4 n5 c5 n6 c6 NV DV PV QV XV YV IV ok said hsaid hxb (Lib.hid hX) (Lib.hid hT) (Lib.hid (H0.out.kept hs)) (Lib.hid (H1.out.kept hs)) (Lib.hid (H2.out.kept hs)) (Lib.hid (H3.out.kept hs)) (Lib.hid (H4.out.kept hs)) (Lib.hid (H5.out.kept hs)) (Lib.hid (H6.out.kept hs)) ae ne ce ke (Lib.hid (HE.out.kept hs)) (PV < NV ∧ QV < NV ∧ PV * QV % NV = 0) true (Lib.hid ⟨fun _ => ⟨Hq1.out, Hq2.out, Hq3.out⟩, fun _ => rfl⟩) aa a8 a9 na ca n8 c8 n9 c9 z (Lib.hid (HA.out.kept hs)) (Lib.hid (HP1.out.kept hs)) (Lib.hid (HQ1.out.kept hs)) HP3 HQ3 HN3 (Lib.hid (by have := HG.out; simpa only [and_assoc] using this)) (by assumption)

end Go.Proofs.YtnfjmngchapdnaaGreatDoor

/- spec.BPrivateOf, from its region 19 on. -/
namespace Go.Proofs.YtnfjmngchapdnaaGreatDoor
open Go.RowKit

set_option maxRecDepth 1000000 in
set_option maxHeartbeats 8000000 in
theorem bp19 {Kk : Act → World → Prop} (w0 w : World) (xb : Nat) (a0 a1 a2 a3 a4 a5 a6 : Option Addr) (n0 c0 n1 c1 n2 c2 n3 c3 n4 c4 n5 c5 n6 c6 : Nat) (NV DV PV QV XV YV IV : Nat) (ok said : Prop) (hsaid : said) (hxb : w0.heap.size ≤ xb) {u0 u1 u3 u5 u6 u7 u10 u11 u12 u13 u14 u15 u16 u17 u18 u19 u20 u21 u22 u23 u24 u25 u26 u27 u28 u29 u30 u31 u32 u33 u34 u35 u36 u37 u38 u39 u40 u41 u42 u43 u44 u45 u46 u47 u48 u49 u50 u51 u52 u53 u54 u55 u56 u57 u58 u59 u60 u61 u62 u63 u64 u65 u66 u67 u68 u69 u70 u71 u72 u73 u74 u75 u76 u77 u78 u79 u80 u81 u82 u83 u84 u85 u86 u87 u88 u89 u90 u91 u92 u93 u94 u95 u96 u97 u98 u99 u100 u101 u102 u103 u104 u105 u106 u107 u108 u109 u110 u111 u112 u113 u114 u115 u116 u117 u118 u119 u120 u121 u122 u123 u124 u125 u126 u127 u128 u129 u130 u131 u132 u133 u134 u135 u136 u137 u138 u139 u140 u141 u142 u143 u144 u145 u146 u147 u148 u149 u150 u151 u152 u153 u154 u155 u156 u157 u158 u159 u160 u161 u162 u163 u164 u165 u166 u167 u168 u169 u170 u171 u172 u173 u174 u175 u176 u177 u178 u179 u180 u181 u182 u183 u184 u185 u186 u187 u188 u189 u190 u191 u192 u193 u194 u195 u196 u197 u198 u199 u200 u201 u202 u203 u204 u205 u206 u207 u208 u209 u210 u211 u212 u213 u214 u215 u216 u217 u218 u219 u220 u221 u222 u223 u224 u225 u226 u227 u228 u229 u230 u231 u232 u233 u234 u235 u236 u237 u238 u239 u240 u241 u242 u243 u244 u245 u246 u247 u248 : Value}
    (HX : Hid (w.heap[xb]? = some (.cells #[.slice a0 n0 c0, .slice a1 n1 c1, .slice a2 n2 c2, .slice a3 n3 c3, .slice a4 n4 c4, .slice a5 n5 c5, .slice a6 n6 c6] 41 (0, 0)))) (HK : Hid (Keeps [] w0 w)) (H0 : Hid (Num 63 w a0 n0 c0 NV)) (H1 : Hid (Num 63 w a1 n1 c1 DV)) (H2 : Hid (Num 63 w a2 n2 c2 PV)) (H3 : Hid (Num 63 w a3 n3 c3 QV)) (H4 : Hid (Num 63 w a4 n4 c4 XV)) (H5 : Hid (Num 63 w a5 n5 c5 YV)) (H6 : Hid (Num 63 w a6 n6 c6 IV))
    (kb ke : Nat) (HC1 : Hid (w.cell? ⟨kb, 1, none⟩ = some (.int .i64 (ke : Int)))) (hke0 : 0 < ke) (hke : ke < 2147483648) (a8 a9 : Option Addr) (n8 c8 n9 c9 : Nat) (HP1 : Hid (Num 63 w a8 n8 c8 (PV - 1))) (HQ1 : Hid (Num 63 w a9 n9 c9 (QV - 1))) (HP3 : Hid (2 < PV)) (HQ3 : Hid (2 < QV)) (HN3 : Hid (0 < NV))
    (HG : Hid (ok ↔ PV < NV ∧ QV < NV ∧ PV * QV % NV = 0 ∧ ke * XV % (PV - 1) = 1 ∧ ke * YV % (QV - 1) = 1 ∧ IV * QV % PV = 1 ∧ DV % (PV - 1) = XV ∧ DV % (QV - 1) = YV ∧ IV < PV ∧ (blen NV / 2 < blen (PV - QV + (QV - PV)) + 100 ∧ 0 < blen (PV - QV + (QV - PV))) ∧ blen NV / 2 < blen DV))
    (hZ : ∀ a w, Code.wp Tryz.prog (tailB19) (bodyPost Tryz.prog Tryz.f14 (bpPost w0 ok said NV DV PV QV XV YV IV)) a w → Kk a w) :
    Code.wp Tryz.prog (regB19) (Exit.then Kk (bodyPost Tryz.prog Tryz.f14 (bpPost w0 ok said NV DV PV QV XV YV IV))) ⟨#[u0, u1, .pointer (some ⟨kb, 0, none⟩), u3, .pointer (some ⟨xb, 0, none⟩), u5, u6, u7, .slice a8 n8 c8, .slice a9 n9 c9, u10, u11, u12, u13, u14, u15, u16, u17, u18, u19, u20, u21, u22, u23, u24, u25, u26, u27, u28, u29, u30, u31, u32, u33, u34, u35, u36, u37, u38, u39, u40, u41, u42, u43, u44, u45, u46, u47, u48, u49, u50, u51, u52, u53, u54, u55, u56, u57, u58, u59, u60, u61, u62, u63, u64, u65, u66, u67, u68, u69, u70, u71, u72, u73, u74, u75, u76, u77, u78, u79, u80, u81, u82, u83, u84, u85, u86, u87, u88, u89, u90, u91, u92, u93, u94, u95, u96, u97, u98, u99, u100, u101, u102, u103, u104, u105, u106, u107, u108, u109, u110, u111, u112, u113, u114, u115, u116, u117, u118, u119, u120, u121, u122, u123, u124, u125, u126, u127, u128, u129, u130, u131, u132, u133, u134, u135, u136, u137, u138, u139, u140, u141, u142, u143, u144, u145, u146, u147, u148, u149, u150, u151, u152, u153, u154, u155, u156, u157, u158, u159, u160, u161, u162, u163, u164, u165, u166, u167, u168, u169, u170, u171, u172, u173, u174, u175, u176, u177, u178, u179, u180, u181, u182, u183, u184, u185, u186, u187, u188, u189, u190, u191, u192, u193, u194, u195, u196, u197, u198, u199, u200, u201, u202, u203, u204, u205, u206, u207, u208, u209, u210, u211, u212, u213, u214, u215, u216, u217, u218, u219, u220, u221, u222, u223, u224, u225, u226, u227, u228, u229, u230, u231, u232, u233, u234, u235, u236, u237, u238, u239, u240, u241, u242, u243, u244, u245, u246, u247, u248], []⟩ w := by
  conv => arg 2; whnf
  have hP3 := HP3.out; have hQ3 := HQ3.out
  have kc := HC1.out
  go_wp2_with fail
  conv => arg 2; whnf
  have hk1 : Keeps [] w (w.alloc (.cells #[.int .u32 (ke : Int)] 62)) := (Keeps.refl _ _).alloc _
  have he := num_lit w ke (by omega) (by omega)
  have hx1 := blk_keeps HX.out hk1 (by simp)
  obtain ⟨k0, k1, k2, k3, k4, k5, k6⟩ := key7 hx1
  have HK1 := Lib.hid hk1; have HE1 := Lib.hid he; have HX1 := Lib.hid hx1
  clear kc hk1 he hx1
  go_wp2_with fail
  refine (num_takeW (H2.out.kept HK1.out) (H3.out.kept HK1.out) (by omega) (by omega) (by omega)).mono ?_
  rintro e w2 ⟨⟨z1, ⟨aa, na, ca, rfl, hz⟩, hz1⟩, h2⟩
  have hx2 := blk_keeps HX1.out h2 (by simp)
  have HZ := Lib.hid hz; have HZ1 := Lib.hid hz1
  have hk2 := HK1.out.trans1 h2
  have he2 := HE1.out.kept h2
  have HK2 := Lib.hid hk2; have HE2 := Lib.hid he2; have HX2 := Lib.hid hx2
  clear hz hz1 k0 k1 k2 k3 k4 k5 k6 hx2 hk2 he2 h2
  obtain ⟨k0, k1, k2, k3, k4, k5, k6⟩ := key7 HX2.out
  go_wp2_with fail
  by_cases hlt : PV < QV
  · refine (num_lt (H2.out.kept HK2.out) (H3.out.kept HK2.out) (by omega) (by omega) hlt).mono ?_
    rintro e w3 ⟨rfl, h3⟩
    have hx3 := blk_keeps HX2.out h3 (by simp)
    have hk3 := HK2.out.trans1 h3
    have HK3 := Lib.hid hk3; have HX3 := Lib.hid hx3; have HE3 := Lib.hid (HE2.out.kept h3)
    have HLT := Lib.hid hlt
    clear k0 k1 k2 k3 k4 k5 k6 hx3 hk3 h3
    obtain ⟨k0, k1, k2, k3, k4, k5, k6⟩ := key7 HX3.out
    go_wp2_with fail
    refine (num_take (H3.out.kept HK3.out) (H2.out.kept HK3.out) (by omega) (by omega) (by omega) (by omega)).mono ?_
    rintro e w4 ⟨⟨ab, nb, cb, rfl, hz4⟩, h4⟩
    have hX := blk_keeps HX3.out h4 (by simp)
    have hs := HK3.out.trans1 h4
    have hT := HK.out.trans1 hs
    have hz5 : Num 63 w4 ab nb cb (PV - QV + (QV - PV)) := by rw [show PV - QV = 0 by (have := HLT.out; omega), Nat.zero_add]; exact hz4
    have hE4 := HE3.out.kept h4
    clear k0 k1 k2 k3 k4 k5 k6 hlt
    go_upto_region 23 with fail
    exact bp23 w0 _ xb a0 a1 a2 a3 a4 a5 a6 n0 c0 n1 c1 n2 c2 n3 c3 n4 c4 n5 c5 n6 c6 NV DV PV QV XV YV IV ok said hsaid hxb (Lib.hid hX) (Lib.hid hT) (Lib.hid (H0.out.kept hs)) (Lib.hid (H1.out.kept hs)) (Lib.hid (H2.out.kept hs)) (Lib.hid (H3.out.kept hs)) (Lib.hid (H4.out.kept hs)) (Lib.hid (H5.out.kept hs)) (Lib.hid (H6.out.kept hs)) _ _ _ ke (Lib.hid hE4) ab a8 a9 nb cb n8 c8 n9 c9 _ (Lib.hid hz5) (Lib.hid (HP1.out.kept hs)) (Lib.hid (HQ1.out.kept hs)) HP3 HQ3 HN3 HG (by assumption)
  · refine (num_nlt (H2.out.kept HK2.out) (H3.out.kept HK2.out) (by omega) (by omega) hlt).mono ?_
    rintro e w3 ⟨⟨o, rfl, fo, _⟩, h3⟩
    have hX := blk_keeps HX2.out h3 (by simp)
    have hs := HK2.out.trans1 h3
    have hT := HK.out.trans1 hs
    have hE4 := HE2.out.kept h3
    have hz5 : Num 63 w3 aa na ca (PV - QV + (QV - PV)) := by rw [show QV - PV = 0 by omega, Nat.add_zero, ← HZ1.out (by omega)]; exact HZ.out.kept h3
    clear k0 k1 k2 k3 k4 k5 k6 hlt
    go_upto_region 23 with fail
    exact bp23 w0 _ xb a0 a1 a2 a3 a4 a5 a6 n0 c0 n1 c1 n2 c2 n3 c3 n4 c4 n5 c5 n6 c6 NV DV PV QV XV YV IV ok said hsaid hxb (Lib.hid hX) (Lib.hid hT) (Lib.hid (H0.out.kept hs)) (Lib.hid (H1.out.kept hs)) (Lib.hid (H2.out.kept hs)) (Lib.hid (H3.out.kept hs)) (Lib.hid (H4.out.kept hs)) (Lib.hid (H5.out.kept hs)) (Lib.hid (H6.out.kept hs)) _ _ _ ke (Lib.hid hE4) aa a8 a9 na ca n8 c8 n9 c9 _ (Lib.hid hz5) (Lib.hid (HP1.out.kept hs)) (Lib.hid (HQ1.out.kept hs)) HP3 HQ3 HN3 HG (by assumption)

end Go.Proofs.YtnfjmngchapdnaaGreatDoor
