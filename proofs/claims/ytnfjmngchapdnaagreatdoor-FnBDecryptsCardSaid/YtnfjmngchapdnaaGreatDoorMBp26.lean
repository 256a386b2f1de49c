import Derived.Test.YtnfjmngchapdnaaGreatDoorMDec0
/- spec.BPrivateOf, from its region 26 on. -/
namespace Go.Proofs.YtnfjmngchapdnaaGreatDoor
open Go.RowKit

set_option maxRecDepth 1000000 in
set_option maxHeartbeats 8000000 in
theorem bp26 {Kk : Act → World → Prop} (w0 w : World) (xb : Nat) (a0 a1 a2 a3 a4 a5 a6 : Option Addr) (n0 c0 n1 c1 n2 c2 n3 c3 n4 c4 n5 c5 n6 c6 : Nat) (NV DV PV QV XV YV IV : Nat) (ok said : Prop) (hsaid : said) (hxb : w0.heap.size ≤ xb) {u0 u1 u2 u3 u6 u7 u8 u9 u10 u12 u13 u14 u15 u16 u17 u18 u19 u20 u21 u22 u23 u24 u25 u26 u27 u28 u29 u30 u31 u32 u33 u34 u35 u36 u37 u38 u39 u40 u41 u42 u43 u44 u45 u46 u47 u48 u49 u50 u51 u52 u53 u54 u55 u56 u57 u58 u59 u60 u61 u62 u63 u64 u65 u66 u67 u68 u69 u70 u71 u72 u73 u74 u75 u76 u77 u78 u79 u80 u81 u82 u83 u84 u85 u86 u87 u88 u89 u90 u91 u92 u93 u94 u95 u96 u97 u98 u99 u100 u101 u102 u103 u104 u105 u106 u107 u108 u109 u110 u111 u112 u113 u114 u115 u116 u117 u118 u119 u120 u121 u122 u123 u124 u125 u126 u127 u128 u129 u130 u131 u132 u133 u134 u135 u136 u137 u138 u139 u140 u141 u142 u143 u144 u145 u146 u147 u148 u149 u150 u151 u152 u153 u154 u155 u156 u157 u158 u159 u160 u161 u162 u163 u164 u165 u166 u167 u168 u169 u170 u171 u172 u173 u174 u175 u176 u177 u178 u179 u180 u181 u182 u183 u184 u185 u186 u187 u188 u189 u190 u191 u192 u193 u194 u195 u196 u197 u198 u199 u200 u201 u202 u203 u204 u205 u206 u207 u208 u209 u210 u211 u212 u213 u214 u215 u216 u217 u218 u219 u220 u221 u222 u223 u224 u225 u226 u227 u228 u229 u230 u231 u232 u233 u234 u235 u236 u237 u238 u239 u240 u241 u242 u243 u244 u245 u246 u247 u248 : Value}
    (HX : Hid (w.heap[xb]? = some (.cells #[.slice a0 n0 c0, .slice a1 n1 c1, .slice a2 n2 c2, .slice a3 n3 c3, .slice a4 n4 c4, .slice a5 n5 c5, .slice a6 n6 c6] 41 (0, 0)))) (HK : Hid (Keeps [] w0 w)) (H0 : Hid (Num 63 w a0 n0 c0 NV)) (H1 : Hid (Num 63 w a1 n1 c1 DV)) (H2 : Hid (Num 63 w a2 n2 c2 PV)) (H3 : Hid (Num 63 w a3 n3 c3 QV)) (H4 : Hid (Num 63 w a4 n4 c4 XV)) (H5 : Hid (Num 63 w a5 n5 c5 YV)) (H6 : Hid (Num 63 w a6 n6 c6 IV))
    (C : Prop) (r : Bool) (HR : Hid (r = true ↔ C)) (aa : Option Addr) (na ca z : Nat) (HA : Hid (Num 63 w aa na ca z))
    (HG : Hid (ok ↔ C ∧ (blen NV / 2 < blen z + 100 ∧ 0 < blen z) ∧ blen NV / 2 < blen DV))
    (hZ : ∀ a w, Code.wp Tryz.prog (tailB26) (bodyPost Tryz.prog Tryz.f14 (bpPost w0 ok said NV DV PV QV XV YV IV)) a w → Kk a w) :
    Code.wp Tryz.prog (regB26) (Exit.then Kk (bodyPost Tryz.prog Tryz.f14 (bpPost w0 ok said NV DV PV QV XV YV IV))) ⟨#[u0, u1, u2, u3, .pointer (some ⟨xb, 0, none⟩), .bool r, u6, u7, u8, u9, u10, .slice aa na ca, u12, u13, u14, u15, u16, u17, u18, u19, u20, u21, u22, u23, u24, u25, u26, u27, u28, u29, u30, u31, u32, u33, u34, u35, u36, u37, u38, u39, u40, u41, u42, u43, u44, u45, u46, u47, u48, u49, u50, u51, u52, u53, u54, u55, u56, u57, u58, u59, u60, u61, u62, u63, u64, u65, u66, u67, u68, u69, u70, u71, u72, u73, u74, u75, u76, u77, u78, u79, u80, u81, u82, u83, u84, u85, u86, u87, u88, u89, u90, u91, u92, u93, u94, u95, u96, u97, u98, u99, u100, u101, u102, u103, u104, u105, u106, u107, u108, u109, u110, u111, u112, u113, u114, u115, u116, u117, u118, u119, u120, u121, u122, u123, u124, u125, u126, u127, u128, u129, u130, u131, u132, u133, u134, u135, u136, u137, u138, u139, u140, u141, u142, u143, u144, u145, u146, u147, u148, u149, u150, u151, u152, u153, u154, u155, u156, u157, u158, u159, u160, u161, u162, u163, u164, u165, u166, u167, u168, u169, u170, u171, u172, u173, u174, u175, u176, u177, u178, u179, u180, u181, u182, u183, u184, u185, u186, u187, u188, u189, u190, u191, u192, u193, u194, u195, u196, u197, u198, u199, u200, u201, u202, u203, u204, u205, u206, u207, u208, u209, u210, u211, u212, u213, u214, u215, u216, u217, u218, u219, u220, u221, u222, u223, u224, u225, u226, u227, u228, u229, u230, u231, u232, u233, u234, u235, u236, u237, u238, u239, u240, u241, u242, u243, u244, u245, u246, u247, u248], []⟩ w := by
  conv => arg 2; whnf
  obtain ⟨k0, k1, k2, k3, k4, k5, k6⟩ := key7 HX.out
  have ff : ∀ j, w.frozen? ⟨xb, j, none⟩ = false := fun j => by simp [World.frozen?, HX.out]
  have e0 := ff 0; have e1 := ff 1; have e2 := ff 2; have e3 := ff 3; have e4 := ff 4; have e5 := ff 5; have e6 := ff 6
  clear ff
  have hS0 := key7 (w' := w.drew) HX.out
  have hx0 : (((((((w.setCell ⟨xb, 0, none⟩ (.slice a0 n0 c0)).setCell ⟨xb, 1, none⟩ (.slice a1 n1 c1)).setCell ⟨xb, 2, none⟩ (.slice a2 n2 c2)).setCell ⟨xb, 3, none⟩ (.slice a3 n3 c3)).setCell ⟨xb, 4, none⟩ (.slice a4 n4 c4)).setCell ⟨xb, 5, none⟩ (.slice a5 n5 c5)).setCell ⟨xb, 6, none⟩ (.slice a6 n6 c6)).heap[xb]? = some (.cells #[.slice a0 n0 c0, .slice a1 n1 c1, .slice a2 n2 c2, .slice a3 n3 c3, .slice a4 n4 c4, .slice a5 n5 c5, .slice a6 n6 c6] 41 (0, 0)) := set7 HX.out
  obtain ⟨wS, hwS⟩ : ∃ wS, wS = (((((((w.setCell ⟨xb, 0, none⟩ (.slice a0 n0 c0)).setCell ⟨xb, 1, none⟩ (.slice a1 n1 c1)).setCell ⟨xb, 2, none⟩ (.slice a2 n2 c2)).setCell ⟨xb, 3, none⟩ (.slice a3 n3 c3)).setCell ⟨xb, 4, none⟩ (.slice a4 n4 c4)).setCell ⟨xb, 5, none⟩ (.slice a5 n5 c5)).setCell ⟨xb, 6, none⟩ (.slice a6 n6 c6)) := ⟨_, rfl⟩
  rw [← hwS] at hx0
  have hSst := key7 (w' := wS.drew) hx0
  have HXS := Lib.hid hx0
  rw [hwS] at hSst
  have HWS := Lib.hid hwS
  clear hx0 hwS
  have hbN := H0.out.blen; have hbz := HA.out.blen; have hbD := H1.out.blen
  cases r
  · have HC : Hid (¬ C) := Lib.hid (fun h => by have := HR.out.2 h; simp at this)
    refine wp_region_txt [0,0,0,0,0,0,0,0,0,0,0,0,0,0,0,0,0,0,0,0,0,0,0,2,0,0] (fun w' => w'.cell? ⟨xb, 0, none⟩ = some (.slice a0 n0 c0) ∧ w'.cell? ⟨xb, 1, none⟩ = some (.slice a1 n1 c1) ∧ w'.cell? ⟨xb, 2, none⟩ = some (.slice a2 n2 c2) ∧ w'.cell? ⟨xb, 3, none⟩ = some (.slice a3 n3 c3) ∧ w'.cell? ⟨xb, 4, none⟩ = some (.slice a4 n4 c4) ∧ w'.cell? ⟨xb, 5, none⟩ = some (.slice a5 n5 c5) ∧ w'.cell? ⟨xb, 6, none⟩ = some (.slice a6 n6 c6)) (by kernel_rfl) (by kernel_rfl) hS0 ?_
    simp only [withMarks]
    repeat (first
      | ((with_reducible refine txt_v (v := ?_) ?_ ?_); (any_goals ((with_reducible refine Yl.mk ?_ ?_); rfl; intro w hSw; (go_simp <;> (try go_bits) <;> (repeat (first | rw [if_pos (by omega)] | rw [if_neg (by omega)])) <;> with_reducible rfl))); try simp only [Act.put, List.setIfInBounds_toArray, List.set_cons_zero, List.set_cons_succ])
      | ((with_reducible refine txt_u ?_ ?_); rfl; try simp only [Act.put, List.setIfInBounds_toArray, List.set_cons_zero, List.set_cons_succ])
      | ((with_reducible refine txt_l (v := ?_) ?_ ?_); (any_goals ((with_reducible refine Reads.mk ?_ ?_); rfl; (go_simp <;> (try go_bits) <;> (repeat (first | rw [if_pos (by omega)] | rw [if_neg (by omega)])) <;> with_reducible rfl))); try simp only [Act.put, List.setIfInBounds_toArray, List.set_cons_zero, List.set_cons_succ])
      | ((with_reducible refine txt_e ?_ ?_); rfl; intro K hK; go_simp; (first | (refine hK _ _ (by first | with_reducible exact hS0 | with_reducible exact hSst) ?_) | ((first | fail); dsimp only; refine hK _ _ (by first | with_reducible exact hS0 | with_reducible exact hSst) ?_)); clear hK K; try simp only [Act.put, List.setIfInBounds_toArray, List.set_cons_zero, List.set_cons_succ]))
    refine txt_nil ?_
    rw [← HWS.out]
    clear hS0 hSst k0 k1 k2 k3 k4 k5 k6 e0 e1 e2 e3 e4 e5 e6
    go_wp2_with fail
    conv => arg 2; whnf
    have hb := HXS.out
    have hk : Keeps [] w0 wS.drew := by rw [HWS.out]; exact (set7_keeps HK.out (by omega)).drew
    have hk7 : Keeps [xb] w wS.drew := by rw [HWS.out]; exact (set7_keeps (Keeps.refl _ _) (by simp)).drew
    have hn : ∀ {a n c x}, Num 63 w a n c x → Num 63 wS.drew a n c x := fun h => h.keepsB hk7 HX.out (no_u32 _ _ _ _ _ _ _ _ _ _ _ _ _ _ _ _ _ _ _ _ _)
    obtain ⟨k0, k1, k2, k3, k4, k5, k6⟩ := key7 (w' := wS.drew) hb
    go_wp2
    refine bodyPost_ret (v := .tuple #[.agg #[.slice a0 n0 c0, .slice a1 n1 c1, .slice a2 n2 c2, .slice a3 n3 c3, .slice a4 n4 c4, .slice a5 n5 c5, .slice a6 n6 c6], .bool false, .bool true]) (by simp [results, Tryz.results14, go_sem, k0, k1, k2, k3, k4, k5, k6]) rfl ⟨⟨a0, a1, a2, a3, a4, a5, a6, n0, c0, n1, c1, n2, c2, n3, c3, n4, c4, n5, c5, n6, c6, false, true, rfl, by simp [hsaid], by simp; exact fun h => HC.out (HG.out.1 h).1, fun _ => ⟨hn H0.out, hn H1.out, hn H2.out, hn H3.out, hn H4.out, hn H5.out, hn H6.out⟩⟩, hk⟩
  · have HC : Hid C := Lib.hid (HR.out.1 rfl)
    by_cases hfar : blen NV / 2 < blen z + 100 ∧ 0 < blen z
    rotate_left
    · have HF := Lib.hid hfar
      have f1 : decide (max ((blen NV : Int) / 2 - 100) 0 < (blen z : Int)) = false := decide_eq_false (by omega)
      clear hfar
      refine wp_region_txt [0,0,0,0,2,0,0,2,0,0,0,0,0,0,0,0,0,0,0,0,0,0,0,2,0,0] (fun w' => w'.cell? ⟨xb, 0, none⟩ = some (.slice a0 n0 c0) ∧ w'.cell? ⟨xb, 1, none⟩ = some (.slice a1 n1 c1) ∧ w'.cell? ⟨xb, 2, none⟩ = some (.slice a2 n2 c2) ∧ w'.cell? ⟨xb, 3, none⟩ = some (.slice a3 n3 c3) ∧ w'.cell? ⟨xb, 4, none⟩ = some (.slice a4 n4 c4) ∧ w'.cell? ⟨xb, 5, none⟩ = some (.slice a5 n5 c5) ∧ w'.cell? ⟨xb, 6, none⟩ = some (.slice a6 n6 c6)) (by kernel_rfl) (by kernel_rfl) hS0 ?_
      simp only [withMarks]
      repeat (first
        | ((with_reducible refine txt_v (v := ?_) ?_ ?_); (any_goals ((with_reducible refine Yl.mk ?_ ?_); rfl; intro w hSw; (go_simp <;> (try go_bits) <;> (repeat (first | rw [if_pos (by omega)] | rw [if_neg (by omega)])) <;> with_reducible rfl))); try simp only [Act.put, List.setIfInBounds_toArray, List.set_cons_zero, List.set_cons_succ])
        | ((with_reducible refine txt_u ?_ ?_); rfl; try simp only [Act.put, List.setIfInBounds_toArray, List.set_cons_zero, List.set_cons_succ])
        | ((with_reducible refine txt_l (v := ?_) ?_ ?_); (any_goals ((with_reducible refine Reads.mk ?_ ?_); rfl; (go_simp <;> (try go_bits) <;> (repeat (first | rw [if_pos (by omega)] | rw [if_neg (by omega)])) <;> with_reducible rfl))); try simp only [Act.put, List.setIfInBounds_toArray, List.set_cons_zero, List.set_cons_succ])
        | ((with_reducible refine txt_e ?_ ?_); rfl; intro K hK; go_simp; (first | (refine hK _ _ (by first | with_reducible exact hS0 | with_reducible exact hSst) ?_) | ((first | (go_at_call 15; (with_reducible refine Calls.mono (num_bits (H0.out.kept (Keeps.refl [] w).drew) (by omega)) ?_); rintro e2 w2 ⟨rfl, rfl⟩) | (go_at_call 15; (with_reducible refine Calls.mono (num_bits (HA.out.kept (Keeps.refl [] w).drew) (by omega)) ?_); rintro e1 w1 ⟨rfl, rfl⟩)); dsimp only; refine hK _ _ (by first | with_reducible exact hS0 | with_reducible exact hSst) ?_)); clear hK K; try simp only [Act.put, List.setIfInBounds_toArray, List.set_cons_zero, List.set_cons_succ]))
      refine txt_nil ?_
      rw [← HWS.out]
      clear hS0 hSst k0 k1 k2 k3 k4 k5 k6 e0 e1 e2 e3 e4 e5 e6
      go_wp2_with fail
      conv => arg 2; whnf
      have hb := HXS.out
      have hk : Keeps [] w0 wS.drew := by rw [HWS.out]; exact (set7_keeps HK.out (by omega)).drew
      have hk7 : Keeps [xb] w wS.drew := by rw [HWS.out]; exact (set7_keeps (Keeps.refl _ _) (by simp)).drew
      have hn : ∀ {a n c x}, Num 63 w a n c x → Num 63 wS.drew a n c x := fun h => h.keepsB hk7 HX.out (no_u32 _ _ _ _ _ _ _ _ _ _ _ _ _ _ _ _ _ _ _ _ _)
      obtain ⟨k0, k1, k2, k3, k4, k5, k6⟩ := key7 (w' := wS.drew) hb
      go_wp2
      refine bodyPost_ret (v := .tuple #[.agg #[.slice a0 n0 c0, .slice a1 n1 c1, .slice a2 n2 c2, .slice a3 n3 c3, .slice a4 n4 c4, .slice a5 n5 c5, .slice a6 n6 c6], .bool false, .bool true]) (by simp [results, Tryz.results14, go_sem, k0, k1, k2, k3, k4, k5, k6]) rfl ⟨⟨a0, a1, a2, a3, a4, a5, a6, n0, c0, n1, c1, n2, c2, n3, c3, n4, c4, n5, c5, n6, c6, false, true, rfl, by simp [hsaid], by simp; exact fun h => HF.out (HG.out.1 h).2.1, fun _ => ⟨hn H0.out, hn H1.out, hn H2.out, hn H3.out, hn H4.out, hn H5.out, hn H6.out⟩⟩, hk⟩
    have HF := Lib.hid hfar
    have f1 : max ((blen NV : Int) / 2 - 100) 0 < (blen z : Int) := by omega
    clear hfar
    by_cases hdn : blen NV / 2 < blen DV
    rotate_left
    · have HD := Lib.hid hdn
      have f2 : decide ((blen NV : Int) / 2 < (blen DV : Int)) = false := decide_eq_false (by omega)
      clear hdn
      refine wp_region_txt [0,0,0,0,2,0,0,2,0,0,0,0,0,0,0,0,2,0,0,2,0,0,0,2,0,0] (fun w' => w'.cell? ⟨xb, 0, none⟩ = some (.slice a0 n0 c0) ∧ w'.cell? ⟨xb, 1, none⟩ = some (.slice a1 n1 c1) ∧ w'.cell? ⟨xb, 2, none⟩ = some (.slice a2 n2 c2) ∧ w'.cell? ⟨xb, 3, none⟩ = some (.slice a3 n3 c3) ∧ w'.cell? ⟨xb, 4, none⟩ = some (.slice a4 n4 c4) ∧ w'.cell? ⟨xb, 5, none⟩ = some (.slice a5 n5 c5) ∧ w'.cell? ⟨xb, 6, none⟩ = some (.slice a6 n6 c6)) (by kernel_rfl) (by kernel_rfl) hS0 ?_
      simp only [withMarks]
      repeat (first
        | ((with_reducible refine txt_v (v := ?_) ?_ ?_); (any_goals ((with_reducible refine Yl.mk ?_ ?_); rfl; intro w hSw; (go_simp <;> (try go_bits) <;> (repeat (first | rw [if_pos (by omega)] | rw [if_neg (by omega)])) <;> with_reducible rfl))); try simp only [Act.put, List.setIfInBounds_toArray, List.set_cons_zero, List.set_cons_succ])
        | ((with_reducible refine txt_u ?_ ?_); rfl; try simp only [Act.put, List.setIfInBounds_toArray, List.set_cons_zero, List.set_cons_succ])
        | ((with_reducible refine txt_l (v := ?_) ?_ ?_); (any_goals ((with_reducible refine Reads.mk ?_ ?_); rfl; (go_simp <;> (try go_bits) <;> (repeat (first | rw [if_pos (by omega)] | rw [if_neg (by omega)])) <;> with_reducible rfl))); try simp only [Act.put, List.setIfInBounds_toArray, List.set_cons_zero, List.set_cons_succ])
        | ((with_reducible refine txt_e ?_ ?_); rfl; intro K hK; go_simp; (first | (refine hK _ _ (by first | with_reducible exact hS0 | with_reducible exact hSst) ?_) | ((first | (go_at_call 15; (with_reducible refine Calls.mono (num_bits (H0.out.kept (Keeps.refl [] w).drew) (by omega)) ?_); rintro e4 w4 ⟨rfl, rfl⟩) | (go_at_call 15; (with_reducible refine Calls.mono (num_bits (H1.out.kept (Keeps.refl [] w).drew) (by omega)) ?_); rintro e3 w3 ⟨rfl, rfl⟩) | (go_at_call 15; (with_reducible refine Calls.mono (num_bits (H0.out.kept (Keeps.refl [] w).drew) (by omega)) ?_); rintro e2 w2 ⟨rfl, rfl⟩) | (go_at_call 15; (with_reducible refine Calls.mono (num_bits (HA.out.kept (Keeps.refl [] w).drew) (by omega)) ?_); rintro e1 w1 ⟨rfl, rfl⟩)); dsimp only; refine hK _ _ (by first | with_reducible exact hS0 | with_reducible exact hSst) ?_)); clear hK K; try simp only [Act.put, List.setIfInBounds_toArray, List.set_cons_zero, List.set_cons_succ]))
      refine txt_nil ?_
      rw [← HWS.out]
      clear hS0 hSst k0 k1 k2 k3 k4 k5 k6 e0 e1 e2 e3 e4 e5 e6
      go_wp2_with fail
      conv => arg 2; whnf
      have hb := HXS.out
      have hk : Keeps [] w0 wS.drew := by rw [HWS.out]; exact (set7_keeps HK.out (by omega)).drew
      have hk7 : Keeps [xb] w wS.drew := by rw [HWS.out]; exact (set7_keeps (Keeps.refl _ _) (by simp)).drew
      have hn : ∀ {a n c x}, Num 63 w a n c x → Num 63 wS.drew a n c x := fun h => h.keepsB hk7 HX.out (no_u32 _ _ _ _ _ _ _ _ _ _ _ _ _ _ _ _ _ _ _ _ _)
      obtain ⟨k0, k1, k2, k3, k4, k5, k6⟩ := key7 (w' := wS.drew) hb
      go_wp2
      refine bodyPost_ret (v := .tuple #[.agg #[.slice a0 n0 c0, .slice a1 n1 c1, .slice a2 n2 c2, .slice a3 n3 c3, .slice a4 n4 c4, .slice a5 n5 c5, .slice a6 n6 c6], .bool false, .bool true]) (by simp [results, Tryz.results14, go_sem, k0, k1, k2, k3, k4, k5, k6]) rfl ⟨⟨a0, a1, a2, a3, a4, a5, a6, n0, c0, n1, c1, n2, c2, n3, c3, n4, c4, n5, c5, n6, c6, false, true, rfl, by simp [hsaid], by simp; exact fun h => HD.out (HG.out.1 h).2.2, fun _ => ⟨hn H0.out, hn H1.out, hn H2.out, hn H3.out, hn H4.out, hn H5.out, hn H6.out⟩⟩, hk⟩
    have HD := Lib.hid hdn
    have f2 : (blen NV : Int) / 2 < (blen DV : Int) := by omega
    clear hdn
    refine wp_region_txt [0,0,0,0,2,0,0,2,0,0,0,0,0,0,0,0,2,0,0,2,0,0,0,2,0,0] (fun w' => w'.cell? ⟨xb, 0, none⟩ = some (.slice a0 n0 c0) ∧ w'.cell? ⟨xb, 1, none⟩ = some (.slice a1 n1 c1) ∧ w'.cell? ⟨xb, 2, none⟩ = some (.slice a2 n2 c2) ∧ w'.cell? ⟨xb, 3, none⟩ = some (.slice a3 n3 c3) ∧ w'.cell? ⟨xb, 4, none⟩ = some (.slice a4 n4 c4) ∧ w'.cell? ⟨xb, 5, none⟩ = some (.slice a5 n5 c5) ∧ w'.cell? ⟨xb, 6, none⟩ = some (.slice a6 n6 c6)) (by kernel_rfl) (by kernel_rfl) hS0 ?_
    simp only [withMarks]
    repeat (first
      | ((with_reducible refine txt_v (v := ?_) ?_ ?_); (any_goals ((with_reducible refine Yl.mk ?_ ?_); rfl; intro w hSw; (go_simp <;> (try go_bits) <;> (repeat (first | rw [if_pos (by omega)] | rw [if_neg (by omega)])) <;> with_reducible rfl))); try simp only [Act.put, List.setIfInBounds_toArray, List.set_cons_zero, List.set_cons_succ])
      | ((with_reducible refine txt_u ?_ ?_); rfl; try simp only [Act.put, List.setIfInBounds_toArray, List.set_cons_zero, List.set_cons_succ])
      | ((with_reducible refine txt_l (v := ?_) ?_ ?_); (any_goals ((with_reducible refine Reads.mk ?_ ?_); rfl; (go_simp <;> (try go_bits) <;> (repeat (first | rw [if_pos (by omega)] | rw [if_neg (by omega)])) <;> with_reducible rfl))); try simp only [Act.put, List.setIfInBounds_toArray, List.set_cons_zero, List.set_cons_succ])
      | ((with_reducible refine txt_e ?_ ?_); rfl; intro K hK; go_simp; (first | (refine hK _ _ (by first | with_reducible exact hS0 | with_reducible exact hSst) ?_) | ((first | (go_at_call 15; (with_reducible refine Calls.mono (num_bits (H0.out.kept (Keeps.refl [] w).drew) (by omega)) ?_); rintro e4 w4 ⟨rfl, rfl⟩) | (go_at_call 15; (with_reducible refine Calls.mono (num_bits (H1.out.kept (Keeps.refl [] w).drew) (by omega)) ?_); rintro e3 w3 ⟨rfl, rfl⟩) | (go_at_call 15; (with_reducible refine Calls.mono (num_bits (H0.out.kept (Keeps.refl [] w).drew) (by omega)) ?_); rintro e2 w2 ⟨rfl, rfl⟩) | (go_at_call 15; (with_reducible refine Calls.mono (num_bits (HA.out.kept (Keeps.refl [] w).drew) (by omega)) ?_); rintro e1 w1 ⟨rfl, rfl⟩)); dsimp only; refine hK _ _ (by first | with_reducible exact hS0 | with_reducible exact hSst) ?_)); clear hK K; try simp only [Act.put, List.setIfInBounds_toArray, List.set_cons_zero, List.set_cons_succ]))
    refine txt_nil ?_
    rw [← HWS.out]
    clear hS0 hSst k0 k1 k2 k3 k4 k5 k6 e0 e1 e2 e3 e4 e5 e6
    go_wp2_with fail
    conv => arg 2; whnf
    have hb := HXS.out
    have hk : Keeps [] w0 wS.drew := by rw [HWS.out]; exact (set7_keeps HK.out (by omega)).drew
    have hk7 : Keeps [xb] w wS.drew := by rw [HWS.out]; exact (set7_keeps (Keeps.refl _ _) (by simp)).drew
    have hn : ∀ {a n c x}, Num 63 w a n c x → Num 63 wS.drew a n c x := fun h => h.keepsB hk7 HX.out (no_u32 _ _ _ _ _ _ _ _ _ _ _ _ _ _ _ _ _ _ _ _ _)
    obtain ⟨k0, k1, k2, k3, k4, k5, k6⟩ := key7 (w' := wS.drew) hb
    go_wp2
    refine bodyPost_ret (v := .tuple #[.agg #[.slice a0 n0 c0, .slice a1 n1 c1, .slice a2 n2 c2, .slice a3 n3 c3, .slice a4 n4 c4, .slice a5 n5 c5, .slice a6 n6 c6], .bool true, .bool true]) (by simp [results, Tryz.results14, go_sem, k0, k1, k2, k3, k4, k5, k6]) rfl ⟨⟨a0, a1, a2, a3, a4, a5, a6, n0, c0, n1, c1, n2, c2, n3, c3, n4, c4, n5, c5, n6, c6, true, true, rfl, by simp [hsaid], by simp; exact HG.out.2 ⟨HC.out, HF.out, HD.out⟩, fun _ => ⟨hn H0.out, hn H1.out, hn H2.out, hn H3.out, hn H4.out, hn H5.out, hn H6.out⟩⟩, hk⟩

end Go.Proofs.YtnfjmngchapdnaaGreatDoor
