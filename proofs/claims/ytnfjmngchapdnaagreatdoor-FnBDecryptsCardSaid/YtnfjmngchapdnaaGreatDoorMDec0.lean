import Derived.Test.YtnfjmngchapdnaaGreatDoorMDecC
import Derived.Test.YtnfjmngchapdnaaGreatDoorMKeyOf
import Derived.Test.YtnfjmngchapdnaaGreatDoorMPubOf
/- rsa.decrypt with primes. -/
namespace Go.Proofs.YtnfjmngchapdnaaGreatDoor
open Go.RowKit

set_option maxRecDepth 1000000 in
set_option maxHeartbeats 8000000 in
theorem decrypt_pk (Z : PK) (s : Option Addr) (mb cb : Nat) (L : List Nat) (a0 : Addr) (w : World) (hz : Z.is w) (hs : SlB w s mb cb L) (hg : Gd w a0)
    (hko : KeyOk Z.N.v Z.E Z.D Z.P.v Z.Q.v (bval Z.LP) (bval Z.LQ) Z.QI) (hp : Pr Z.P.v) (hq : Pr Z.Q.v) (hmb : mb ≤ 8000) :
    Calls Tryz.prog 82 #[.pointer (some ⟨Z.pk, 0, none⟩), .slice s mb cb, .bool false] w (decPost Z.N mb a0 (bval L) (bval L ^ Z.D % Z.N.v) w) := by
  have q22 : ∀ (w : World) (a : Option Addr) (n c n' c' : Nat), (binOp .eql 22 (.slice a n c) (.slice none n' c')).run Tryz.prog w = .ok (.bool a.isNone) w := fun w a n c n' c' => Lib.run_eql_slice_nil w _ _ a n c n' c' und_bytes
  obtain ⟨r, hr⟩ : ∃ r, r = bval L ^ Z.D % Z.N.v := ⟨_, rfl⟩
  obtain ⟨c, hc⟩ : ∃ c, c = bval L := ⟨_, rfl⟩
  rw [← hr, ← hc]
  rw [← hc] at hr
  have HR := Lib.hid hr; have HCV := Lib.hid hc
  have HKO := Lib.hid hko; have HP := Lib.hid hp; have HQ := Lib.hid hq
  have c0 := hz.c0; have c1 := hz.c1
  have HZ := Lib.hid hz; have HS := Lib.hid hs; have HG := Lib.hid hg
  clear hz hs hg hko hp hq hr hc
  go_enter Tryz.func82, Tryz.ntmps82
  go_wp2_with fail
  refine wp_region_txt [0,0,0,0,1,0,0,0,0,1,0,0] (fun _ => True) (by kernel_rfl) (by kernel_rfl) trivial ?_
  simp only [withMarks]
  repeat (first
    | ((with_reducible refine txt_v (v := ?_) ?_ ?_); (any_goals ((with_reducible refine Yl.mk ?_ ?_); rfl; intro w hSw; (go_simp <;> (try go_bits) <;> (repeat (first | rw [if_pos (by omega)] | rw [if_neg (by omega)])) <;> with_reducible rfl))); try simp only [Act.put, List.setIfInBounds_toArray, List.set_cons_zero, List.set_cons_succ])
    | ((with_reducible refine txt_u ?_ ?_); rfl; try simp only [Act.put, List.setIfInBounds_toArray, List.set_cons_zero, List.set_cons_succ])
    | ((with_reducible refine txt_l (v := ?_) ?_ ?_); (any_goals ((with_reducible refine Reads.mk ?_ ?_); rfl; (go_simp <;> (try go_bits) <;> (repeat (first | rw [if_pos (by omega)] | rw [if_neg (by omega)])) <;> with_reducible rfl))); try simp only [Act.put, List.setIfInBounds_toArray, List.set_cons_zero, List.set_cons_succ])
    | ((with_reducible refine txt_e ?_ ?_); rfl; intro K hK; go_simp; (first | (refine hK _ _ trivial ?_) | ((first | fail); dsimp only; refine hK _ _ trivial ?_)); clear hK K; try simp only [Act.put, List.setIfInBounds_toArray, List.set_cons_zero, List.set_cons_succ]))
  refine txt_nil ?_
  go_wp2_with fail
  refine (newNat_any _).mono ?_
  rintro e w1 ⟨qc, lc, rfl, hC, hqc, hlc, h1⟩
  replace h1 := (Keeps.refl [] w).drew.trans1 h1
  have o1 := HZ.out.N.old hlc
  go_wp2_with fail
  refine (ma_SetBytes qc lc 0 0 Z.N s mb cb L _ hC (HZ.out.N.kept h1) (HS.out.kept h1) o1.2.2.1 hmb).mono ?_
  rintro e w2 ⟨hR, h2⟩
  rw [← HCV.out] at hR
  have h12 := h1.two hqc hlc h2
  have HK := Lib.hid h12
  clear h1 h2 h12 c0 c1 hC o1
  rcases hR with ⟨hf1, hf2, rfl, hC⟩ | ⟨hno, t, x, rfl⟩
  rotate_left
  · have g0 : w2.cell? ⟨0, 0, none⟩ = some (.iface 124 (.pointer (some a0))) := HG.out.kept HK.out
    have HNO := Lib.hid hno
    clear hno
    go_wp2_with fail
    refine wp_region_txt [1,0,0] (fun _ => True) (by kernel_rfl) (by kernel_rfl) trivial ?_
    simp only [withMarks]
    repeat (first
      | ((with_reducible refine txt_v (v := ?_) ?_ ?_); (any_goals ((with_reducible refine Yl.mk ?_ ?_); rfl; intro w hSw; (go_simp <;> (try go_bits) <;> (repeat (first | rw [if_pos (by omega)] | rw [if_neg (by omega)])) <;> with_reducible rfl))); try simp only [Act.put, List.setIfInBounds_toArray, List.set_cons_zero, List.set_cons_succ])
      | ((with_reducible refine txt_u ?_ ?_); rfl; try simp only [Act.put, List.setIfInBounds_toArray, List.set_cons_zero, List.set_cons_succ])
      | ((with_reducible refine txt_l (v := ?_) ?_ ?_); (any_goals ((with_reducible refine Reads.mk ?_ ?_); rfl; (go_simp <;> (try go_bits) <;> (repeat (first | rw [if_pos (by omega)] | rw [if_neg (by omega)])) <;> with_reducible rfl))); try simp only [Act.put, List.setIfInBounds_toArray, List.set_cons_zero, List.set_cons_succ])
      | ((with_reducible refine txt_e ?_ ?_); rfl; intro K hK; go_simp; (first | (refine hK _ _ trivial ?_) | ((first | fail); dsimp only; refine hK _ _ trivial ?_)); clear hK K; try simp only [Act.put, List.setIfInBounds_toArray, List.set_cons_zero, List.set_cons_succ]))
    refine txt_nil ?_
    go_wp2
    go_ret2
    exact ⟨.inr ⟨HNO.out, rfl⟩, HK.out.drew⟩
  have HC := Lib.hid hC; have HF := Lib.hid (And.intro hf1 hf2)
  clear hC hf1 hf2
  have c3 := (HZ.out.kept HK.out).c3; have c4 := (HZ.out.kept HK.out).c4; have c5 := (HZ.out.kept HK.out).c5
  go_wp2_with fail
  refine wp_region_txt [0,0,0,1,0,0,0,1,0,0] (fun _ => True) (by kernel_rfl) (by kernel_rfl) trivial ?_
  simp only [withMarks]
  repeat (first
    | ((with_reducible refine txt_v (v := ?_) ?_ ?_); (any_goals ((with_reducible refine Yl.mk ?_ ?_); rfl; intro w hSw; (go_simp <;> (try go_bits) <;> (repeat (first | rw [if_pos (by omega)] | rw [if_neg (by omega)])) <;> with_reducible rfl))); try simp only [Act.put, List.setIfInBounds_toArray, List.set_cons_zero, List.set_cons_succ])
    | ((with_reducible refine txt_u ?_ ?_); rfl; try simp only [Act.put, List.setIfInBounds_toArray, List.set_cons_zero, List.set_cons_succ])
    | ((with_reducible refine txt_l (v := ?_) ?_ ?_); (any_goals ((with_reducible refine Reads.mk ?_ ?_); rfl; (go_simp <;> (try go_bits) <;> (repeat (first | rw [if_pos (by omega)] | rw [if_neg (by omega)])) <;> with_reducible rfl))); try simp only [Act.put, List.setIfInBounds_toArray, List.set_cons_zero, List.set_cons_succ])
    | ((with_reducible refine txt_e ?_ ?_); rfl; intro K hK; go_simp; (first | (refine hK _ _ trivial ?_) | ((first | fail); dsimp only; refine hK _ _ trivial ?_)); clear hK K; try simp only [Act.put, List.setIfInBounds_toArray, List.set_cons_zero, List.set_cons_succ]))
  refine txt_nil ?_
  go_wp2_with fail
  refine (newNat_any _).mono ?_
  rintro e w3 ⟨q0, l0, rfl, h0, hq0, hl0, h3⟩
  replace h3 := (Keeps.refl [] w2).drew.trans1 h3
  clear c3 c4 c5
  have n1 := HC.out.old hq0
  have n2 := HC.out.old hl0
  have z0 : w.heap.size ≤ q0 := Nat.le_trans HK.out.size hq0
  have z1 : w.heap.size ≤ l0 := Nat.le_trans HK.out.size hl0
  have HCx := Lib.hid (HC.out.kept h3)
  have HKx := Lib.hid (HK.out.trans1 h3)
  have H0 := Lib.hid h0
  clear h0 h3 HC HK
  go_upto_region 10 with fail
  rename_i ky hy kx hx
  exact dec10 Z w mb a0 c r qc lc q0 l0 HZ HF HKO HP HQ HR _ HKx z0 z1 (Lib.hid ⟨n1, n2⟩) HCx H0 hy hx

end Go.Proofs.YtnfjmngchapdnaaGreatDoor

/- rsa.decrypt without primes. -/
namespace Go.Proofs.YtnfjmngchapdnaaGreatDoor
open Go.RowKit

set_option maxRecDepth 1000000 in
set_option maxHeartbeats 8000000 in
theorem decrypt_pb (Z : PB) (s : Option Addr) (mb cb : Nat) (L : List Nat) (a0 : Addr) (w : World) (hz : Z.is w) (hs : SlB w s mb cb L) (hg : Gd w a0) (hodd : Z.N.v % 2 = 1) (hD : Z.D ≤ Z.N.v) (hmb : mb ≤ 8000) :
    Calls Tryz.prog 82 #[.pointer (some ⟨Z.pk, 0, none⟩), .slice s mb cb, .bool false] w (decPost Z.N mb a0 (bval L) (bval L ^ Z.D % Z.N.v) w) := by
  have q22 : ∀ (w : World) (a : Option Addr) (n c n' c' : Nat), (binOp .eql 22 (.slice a n c) (.slice none n' c')).run Tryz.prog w = .ok (.bool a.isNone) w := fun w a n c n' c' => Lib.run_eql_slice_nil w _ _ a n c n' c' und_bytes
  obtain ⟨r, hr⟩ : ∃ r, r = bval L ^ Z.D % Z.N.v := ⟨_, rfl⟩
  obtain ⟨c, hc⟩ : ∃ c, c = bval L := ⟨_, rfl⟩
  rw [← hr, ← hc]
  rw [← hc] at hr
  have HR := Lib.hid hr; have HCV := Lib.hid hc; have HODD := Lib.hid hodd
  have c0 := hz.c0; have c1 := hz.c1
  have HZ := Lib.hid hz; have HS := Lib.hid hs; have HG := Lib.hid hg
  have n31 := hz.N.n31; have ng := hz.N.gt
  have hbl := blen_le_n hz.N.lt
  clear hz hs hg hr hc hodd
  go_enter Tryz.func82, Tryz.ntmps82
  go_wp2_with fail
  refine wp_region_txt [0,0,0,0,1,0,0,0,0,1,0,0] (fun _ => True) (by kernel_rfl) (by kernel_rfl) trivial ?_
  simp only [withMarks]
  repeat (first
    | ((with_reducible refine txt_v (v := ?_) ?_ ?_); (any_goals ((with_reducible refine Yl.mk ?_ ?_); rfl; intro w hSw; (go_simp <;> (try go_bits) <;> (repeat (first | rw [if_pos (by omega)] | rw [if_neg (by omega)])) <;> with_reducible rfl))); try simp only [Act.put, List.setIfInBounds_toArray, List.set_cons_zero, List.set_cons_succ])
    | ((with_reducible refine txt_u ?_ ?_); rfl; try simp only [Act.put, List.setIfInBounds_toArray, List.set_cons_zero, List.set_cons_succ])
    | ((with_reducible refine txt_l (v := ?_) ?_ ?_); (any_goals ((with_reducible refine Reads.mk ?_ ?_); rfl; (go_simp <;> (try go_bits) <;> (repeat (first | rw [if_pos (by omega)] | rw [if_neg (by omega)])) <;> with_reducible rfl))); try simp only [Act.put, List.setIfInBounds_toArray, List.set_cons_zero, List.set_cons_succ])
    | ((with_reducible refine txt_e ?_ ?_); rfl; intro K hK; go_simp; (first | (refine hK _ _ trivial ?_) | ((first | fail); dsimp only; refine hK _ _ trivial ?_)); clear hK K; try simp only [Act.put, List.setIfInBounds_toArray, List.set_cons_zero, List.set_cons_succ]))
  refine txt_nil ?_
  go_wp2_with fail
  refine (newNat_any _).mono ?_
  rintro e w1 ⟨qc, lc, rfl, hC, hqc, hlc, h1⟩
  replace h1 := (Keeps.refl [] w).drew.trans1 h1
  have o1 := Lib.hid (HZ.out.N.old hlc)
  go_wp2_with fail
  refine (ma_SetBytes qc lc 0 0 Z.N s mb cb L _ hC (HZ.out.N.kept h1) (HS.out.kept h1) o1.out.2.2.1 hmb).mono ?_
  rintro e w2 ⟨hR, h2⟩
  rw [← HCV.out] at hR
  have h12 := h1.two hqc hlc h2
  have HK := Lib.hid h12
  clear h1 h2 h12 c0 c1 hC o1
  rcases hR with ⟨hf1, hf2, rfl, hC⟩ | ⟨hno, t, x, rfl⟩
  rotate_left
  · have g0 : w2.cell? ⟨0, 0, none⟩ = some (.iface 124 (.pointer (some a0))) := HG.out.kept HK.out
    have HNO := Lib.hid hno
    clear hno
    go_wp2_with fail
    refine wp_region_txt [1,0,0] (fun _ => True) (by kernel_rfl) (by kernel_rfl) trivial ?_
    simp only [withMarks]
    repeat (first
      | ((with_reducible refine txt_v (v := ?_) ?_ ?_); (any_goals ((with_reducible refine Yl.mk ?_ ?_); rfl; intro w hSw; (go_simp <;> (try go_bits) <;> (repeat (first | rw [if_pos (by omega)] | rw [if_neg (by omega)])) <;> with_reducible rfl))); try simp only [Act.put, List.setIfInBounds_toArray, List.set_cons_zero, List.set_cons_succ])
      | ((with_reducible refine txt_u ?_ ?_); rfl; try simp only [Act.put, List.setIfInBounds_toArray, List.set_cons_zero, List.set_cons_succ])
      | ((with_reducible refine txt_l (v := ?_) ?_ ?_); (any_goals ((with_reducible refine Reads.mk ?_ ?_); rfl; (go_simp <;> (try go_bits) <;> (repeat (first | rw [if_pos (by omega)] | rw [if_neg (by omega)])) <;> with_reducible rfl))); try simp only [Act.put, List.setIfInBounds_toArray, List.set_cons_zero, List.set_cons_succ])
      | ((with_reducible refine txt_e ?_ ?_); rfl; intro K hK; go_simp; (first | (refine hK _ _ trivial ?_) | ((first | fail); dsimp only; refine hK _ _ trivial ?_)); clear hK K; try simp only [Act.put, List.setIfInBounds_toArray, List.set_cons_zero, List.set_cons_succ]))
    refine txt_nil ?_
    go_wp2
    go_ret2
    exact ⟨.inr ⟨HNO.out, rfl⟩, HK.out.drew⟩
  have HC := Lib.hid hC; have HF := Lib.hid (And.intro hf1 hf2)
  clear hC hf1 hf2
  have c5 := (HZ.out.kept HK.out).c5; have c2 := (HZ.out.kept HK.out).c2
  go_wp2_with fail
  refine wp_region_txt [2,0,0,0,0,0,0,2,0,2,0] (fun w' => w'.cell? ⟨Z.pk, 2, none⟩ = some (.pointer (some ⟨Z.d, 0, none⟩))) (by kernel_rfl) (by kernel_rfl) c2 ?_
  simp only [withMarks]
  repeat (first
    | ((with_reducible refine txt_v (v := ?_) ?_ ?_); (any_goals ((with_reducible refine Yl.mk ?_ ?_); rfl; intro w hSw; (go_simp <;> (try go_bits) <;> (repeat (first | rw [if_pos (by omega)] | rw [if_neg (by omega)])) <;> with_reducible rfl))); try simp only [Act.put, List.setIfInBounds_toArray, List.set_cons_zero, List.set_cons_succ])
    | ((with_reducible refine txt_u ?_ ?_); rfl; try simp only [Act.put, List.setIfInBounds_toArray, List.set_cons_zero, List.set_cons_succ])
    | ((with_reducible refine txt_l (v := ?_) ?_ ?_); (any_goals ((with_reducible refine Reads.mk ?_ ?_); rfl; (go_simp <;> (try go_bits) <;> (repeat (first | rw [if_pos (by omega)] | rw [if_neg (by omega)])) <;> with_reducible rfl))); try simp only [Act.put, List.setIfInBounds_toArray, List.set_cons_zero, List.set_cons_succ])
    | ((with_reducible refine txt_e ?_ ?_); rfl; intro K hK; go_simp; (first | (refine hK _ _ (by first | exact (HZ.out.kept k6).c2 | exact (HZ.out.kept k5).c2 | exact (HZ.out.kept k4).c2 | exact c2) ?_) | ((first | (go_at_call 72; refine (ma_Exp q1 l1 0 0 qc lc 32 c Z.N (some ⟨b, 0, none⟩) _ _ O _ hM (HCa.out.kept h5) (HZ.out.N.kept k5) HODD.out oe.out.2.2.1 oe.out.2.2.2.2 hO (by omega)).mono ?_; rintro e w6 ⟨rfl, hM, h6⟩; have k6 := k5.two y0 y1 h6) | (go_at_call 69; refine (ma_Bytes Z.d Z.ld 32 Z.D Z.N _ (HZ.out.d.kept k4) (HZ.out.N.kept k4) hD).mono ?_; rintro e w5 ⟨⟨b, O, rfl, _, hO, hOv⟩, h5⟩; have k5 := k4.trans1 h5; replace hM := hM.kept h5) | (go_at_call 51; refine (newNat_any _).mono ?_; rintro e w4' ⟨q1, l1, rfl, hM, hq1, hl1, h4'⟩; have h4 := (Keeps.refl [] _).drew.trans1 h4'; have k4 := HK.out.trans1 h4; have y0 : w.heap.size ≤ q1 := Nat.le_trans HK.out.size hq1; have y1 : w.heap.size ≤ l1 := Nat.le_trans HK.out.size hl1; have HCa := Lib.hid (HC.out.kept h4); have oe := Lib.hid (HZ.out.N.old y1))); dsimp only; refine hK _ _ (by first | exact (HZ.out.kept k6).c2 | exact (HZ.out.kept k5).c2 | exact (HZ.out.kept k4).c2 | exact c2) ?_)); clear hK K; try simp only [Act.put, List.setIfInBounds_toArray, List.set_cons_zero, List.set_cons_succ]))
  refine txt_nil ?_
  rw [hOv, ← HR.out] at hM
  have hrl : r ≤ Z.N.v := by rw [HR.out]; exact Nat.le_of_lt (Nat.mod_lt _ (by omega))
  have HM := Lib.hid hM; have HKx := Lib.hid k6
  clear hM h4 h4' h5 h6 k4 k5 k6 oe c2 c5 hO hOv HK HC HCa
  go_wp2_with fail
  refine (ma_Bytes q1 l1 32 _ Z.N _ HM.out (HZ.out.N.kept HKx.out) hrl).mono ?_
  rintro e w19 ⟨⟨b, O, rfl, hb, hO, hOv⟩, h1'⟩
  have HB := Lib.hid (Nat.le_trans HKx.out.size hb); have HO := Lib.hid hO; have HOv := Lib.hid hOv
  have HK := Lib.hid (HKx.out.trans1 h1')
  clear hb hO hOv h1'
  go_wp2_with fail
  go_ret2
  exact ⟨.inl ⟨HF.out.1, HF.out.2, b, O, rfl, HB.out, HO.out, HOv.out⟩, HK.out⟩

end Go.Proofs.YtnfjmngchapdnaaGreatDoor

/- impl.BCheck, by each way. -/
namespace Go.Proofs.YtnfjmngchapdnaaGreatDoor
open Go.RowKit

theorem set8 {w : World} {B : Nat} {t : TypeId} {c0 c1 c2 c3 c4 c5 c6 c7 v0 v1 v2 v3 v4 v5 v6 v7 : Value} (h : w.heap[B]? = some (.cells #[c0, c1, c2, c3, c4, c5, c6, c7] t (0, 0))) :
    ((((((((w.setCell ⟨B, 0, none⟩ v0).setCell ⟨B, 1, none⟩ v1).setCell ⟨B, 2, none⟩ v2).setCell ⟨B, 3, none⟩ v3).setCell ⟨B, 4, none⟩ v4).setCell ⟨B, 5, none⟩ v5).setCell ⟨B, 6, none⟩ v6).setCell ⟨B, 7, none⟩ v7).heap[B]? = some (.cells #[v0, v1, v2, v3, v4, v5, v6, v7] t (0, 0)) := by
  refine MHdr.modify (C := #[v0, v1, v2, v3, v4, v5, v6, c7]) ?_ (by simp)
  refine MHdr.modify (C := #[v0, v1, v2, v3, v4, v5, c6, c7]) ?_ (by simp)
  refine MHdr.modify (C := #[v0, v1, v2, v3, v4, c5, c6, c7]) ?_ (by simp)
  refine MHdr.modify (C := #[v0, v1, v2, v3, c4, c5, c6, c7]) ?_ (by simp)
  refine MHdr.modify (C := #[v0, v1, v2, c3, c4, c5, c6, c7]) ?_ (by simp)
  refine MHdr.modify (C := #[v0, v1, c2, c3, c4, c5, c6, c7]) ?_ (by simp)
  refine MHdr.modify (C := #[v0, c1, c2, c3, c4, c5, c6, c7]) ?_ (by simp)
  exact MHdr.modify (C := #[c0, c1, c2, c3, c4, c5, c6, c7]) h (by simp)
theorem set8_other {w : World} {B x : Nat} {o : Obj} {v0 v1 v2 v3 v4 v5 v6 v7 : Value} (h : w.heap[x]? = some o) (hx : x ≠ B) :
    ((((((((w.setCell ⟨B, 0, none⟩ v0).setCell ⟨B, 1, none⟩ v1).setCell ⟨B, 2, none⟩ v2).setCell ⟨B, 3, none⟩ v3).setCell ⟨B, 4, none⟩ v4).setCell ⟨B, 5, none⟩ v5).setCell ⟨B, 6, none⟩ v6).setCell ⟨B, 7, none⟩ v7).heap[x]? = some o := by
  simp only [Below.heap_setCell _ _ _ _ (show x ≠ (⟨B, 0, none⟩ : Addr).block from hx), Below.heap_setCell _ _ _ _ (show x ≠ (⟨B, 1, none⟩ : Addr).block from hx), Below.heap_setCell _ _ _ _ (show x ≠ (⟨B, 2, none⟩ : Addr).block from hx), Below.heap_setCell _ _ _ _ (show x ≠ (⟨B, 3, none⟩ : Addr).block from hx), Below.heap_setCell _ _ _ _ (show x ≠ (⟨B, 4, none⟩ : Addr).block from hx), Below.heap_setCell _ _ _ _ (show x ≠ (⟨B, 5, none⟩ : Addr).block from hx), Below.heap_setCell _ _ _ _ (show x ≠ (⟨B, 6, none⟩ : Addr).block from hx), Below.heap_setCell _ _ _ _ (show x ≠ (⟨B, 7, none⟩ : Addr).block from hx)]
  exact h
theorem set8_keeps {S : List Nat} {w0 w : World} {B : Nat} {v0 v1 v2 v3 v4 v5 v6 v7 : Value} (h : Keeps S w0 w) (hB : B < w0.heap.size → B ∈ S) : Keeps S w0 ((((((((w.setCell ⟨B, 0, none⟩ v0).setCell ⟨B, 1, none⟩ v1).setCell ⟨B, 2, none⟩ v2).setCell ⟨B, 3, none⟩ v3).setCell ⟨B, 4, none⟩ v4).setCell ⟨B, 5, none⟩ v5).setCell ⟨B, 6, none⟩ v6).setCell ⟨B, 7, none⟩ v7) :=
  (((((((h.setCell hB _).setCell hB _).setCell hB _).setCell hB _).setCell hB _).setCell hB _).setCell hB _).setCell hB _
theorem BAt.ne_cells {w : World} {b o B : Nat} {L : List Nat} {C : Array Value} {t : TypeId} {z : Nat × Nat} (h : BAt w b o L) (hL : L ≠ []) (hb : w.heap[B]? = some (.cells C t z)) (hC : ∀ (j : Nat) (y : Int), C[j]? ≠ some (.int .u8 y)) : b ≠ B := by
  rintro rfl
  have hl : 0 < L.length := List.length_pos_iff.2 hL
  have h1 := h 0 hl
  have h2 : w.cell? ⟨b, o + 0, none⟩ = C[o + 0]? := by simp [World.cell?, hb]
  rw [h2] at h1
  exact hC _ _ h1
theorem SlV.keeps2 {w w' : World} {v : Value} {x B B' : Nat} {C C' : Array Value} {t t' : TypeId} {z z' : Nat × Nat} (h : SlV w v x) (hk : Keeps [B, B'] w w') (hb : w.heap[B]? = some (.cells C t z)) (hC : ∀ (j : Nat) (y : Int), C[j]? ≠ some (.int .u8 y))
    (hb' : w.heap[B']? = some (.cells C' t' z')) (hC' : ∀ (j : Nat) (y : Int), C'[j]? ≠ some (.int .u8 y)) : SlV w' v x := by
  obtain ⟨a, n, c, L, h1, h2, h3, h4⟩ := h
  refine ⟨a, n, c, L, h1, h2.keeps' hk (fun b o hL hB => ?_), h3, h4⟩
  simp [hB.ne_cells hL hb hC, hB.ne_cells hL hb' hC']
theorem no_u8 : ∀ (j : Nat) (y : Int), (#[.slice none 0 0, .int .i64 0, .slice none 0 0, .slice none 0 0, .slice none 0 0, .slice none 0 0, .slice none 0 0, .slice none 0 0] : Array Value)[j]? ≠ some (.int .u8 y) := by
  intro j y h
  have h2 : j < 8 := (Array.getElem?_eq_some_iff.1 h).1
  obtain rfl | rfl | rfl | rfl | rfl | rfl | rfl | rfl : j = 0 ∨ j = 1 ∨ j = 2 ∨ j = 3 ∨ j = 4 ∨ j = 5 ∨ j = 6 ∨ j = 7 := by omega
  all_goals simp at h
theorem no_u8b (b : Bool) : ∀ (j : Nat) (y : Int), (#[.bool b] : Array Value)[j]? ≠ some (.int .u8 y) := by
  intro j y h
  have h2 : j < 1 := (Array.getElem?_eq_some_iff.1 h).1
  obtain rfl : j = 0 := by omega
  simp at h

def CheckR (e : Ending) (w' : World) (ok : Prop) (N : Nat) (E : Int) (D P Q DP DQ QI : Nat) : Prop :=
  (ok ∧ ∃ v1 v2 v3 v4 v5 v6 v7, e = .returned (.tuple #[.agg #[v1, .int .i64 E, v2, v3, v4, v5, v6, v7], .bool true]) ∧ SlV w' v1 N ∧ SlV w' v2 D ∧ SlV w' v3 P ∧ SlV w' v4 Q ∧ SlV w' v5 DP ∧ SlV w' v6 DQ ∧ SlV w' v7 QI) ∨
    (¬ ok ∧ e = .returned (.tuple #[.agg #[.slice none 0 0, .int .i64 0, .slice none 0 0, .slice none 0 0, .slice none 0 0, .slice none 0 0, .slice none 0 0, .slice none 0 0], .bool false]))
def CheckB (e : Ending) (w' : World) (N : Nat) (E : Int) (D : Nat) : Prop :=
  (BareOk N D E ∧ ∃ v1 v2, e = .returned (.tuple #[.agg #[v1, .int .i64 E, v2, .slice none 0 0, .slice none 0 0, .slice none 0 0, .slice none 0 0, .slice none 0 0], .bool true]) ∧ SlV w' v1 N ∧ SlV w' v2 D) ∨
    (¬ BareOk N D E ∧ e = .returned (.tuple #[.agg #[.slice none 0 0, .int .i64 0, .slice none 0 0, .slice none 0 0, .slice none 0 0, .slice none 0 0, .slice none 0 0, .slice none 0 0], .bool false]))

end Go.Proofs.YtnfjmngchapdnaaGreatDoor

/- spec.BPrivateOf: what it returns; its text cut at regions. -/
namespace Go.Proofs.YtnfjmngchapdnaaGreatDoor
open Go.RowKit

/-- What BPrivateOf returns. -/
def BPR (e : Ending) (w' : World) (ok said : Prop) (NV DV PV QV XV YV IV : Nat) : Prop :=
  ∃ (a0 a1 a2 a3 a4 a5 a6 : Option Addr) (n0 c0 n1 c1 n2 c2 n3 c3 n4 c4 n5 c5 n6 c6 : Nat) (bi bs : Bool),
    e = .returned (.tuple #[.agg #[.slice a0 n0 c0, .slice a1 n1 c1, .slice a2 n2 c2, .slice a3 n3 c3, .slice a4 n4 c4, .slice a5 n5 c5, .slice a6 n6 c6], .bool bi, .bool bs]) ∧ (bs = true ↔ said) ∧ (bi = true ↔ ok) ∧
      (ok → Num 63 w' a0 n0 c0 NV ∧ Num 63 w' a1 n1 c1 DV ∧ Num 63 w' a2 n2 c2 PV ∧ Num 63 w' a3 n3 c3 QV ∧ Num 63 w' a4 n4 c4 XV ∧ Num 63 w' a5 n5 c5 YV ∧ Num 63 w' a6 n6 c6 IV)
def bpPost (w0 : World) (ok said : Prop) (NV DV PV QV XV YV IV : Nat) (e : Ending) (w' : World) : Prop := BPR e w' ok said NV DV PV QV XV YV IV ∧ Keeps [] w0 w'
theorem key7 {w' : World} {xb : Nat} {a0 a1 a2 a3 a4 a5 a6 : Option Addr} {n0 c0 n1 c1 n2 c2 n3 c3 n4 c4 n5 c5 n6 c6 : Nat} (h : w'.heap[xb]? = some (.cells #[.slice a0 n0 c0, .slice a1 n1 c1, .slice a2 n2 c2, .slice a3 n3 c3, .slice a4 n4 c4, .slice a5 n5 c5, .slice a6 n6 c6] 41 (0, 0))) :
    w'.cell? ⟨xb, 0, none⟩ = some (.slice a0 n0 c0) ∧ w'.cell? ⟨xb, 1, none⟩ = some (.slice a1 n1 c1) ∧ w'.cell? ⟨xb, 2, none⟩ = some (.slice a2 n2 c2) ∧ w'.cell? ⟨xb, 3, none⟩ = some (.slice a3 n3 c3) ∧ w'.cell? ⟨xb, 4, none⟩ = some (.slice a4 n4 c4) ∧ w'.cell? ⟨xb, 5, none⟩ = some (.slice a5 n5 c5) ∧ w'.cell? ⟨xb, 6, none⟩ = some (.slice a6 n6 c6) := by
  refine ⟨?_, ?_, ?_, ?_, ?_, ?_, ?_⟩ <;> (rw [cell_of_row w' xb _ _ _ _ h]; rfl)
theorem set7 {w : World} {B : Nat} {t : TypeId} {c0 c1 c2 c3 c4 c5 c6 v0 v1 v2 v3 v4 v5 v6 : Value} (h : w.heap[B]? = some (.cells #[c0, c1, c2, c3, c4, c5, c6] t (0, 0))) :
    (((((((w.setCell ⟨B, 0, none⟩ v0).setCell ⟨B, 1, none⟩ v1).setCell ⟨B, 2, none⟩ v2).setCell ⟨B, 3, none⟩ v3).setCell ⟨B, 4, none⟩ v4).setCell ⟨B, 5, none⟩ v5).setCell ⟨B, 6, none⟩ v6).heap[B]? = some (.cells #[v0, v1, v2, v3, v4, v5, v6] t (0, 0)) := by
  refine MHdr.modify (C := #[v0, v1, v2, v3, v4, v5, c6]) ?_ (by simp)
  refine MHdr.modify (C := #[v0, v1, v2, v3, v4, c5, c6]) ?_ (by simp)
  refine MHdr.modify (C := #[v0, v1, v2, v3, c4, c5, c6]) ?_ (by simp)
  refine MHdr.modify (C := #[v0, v1, v2, c3, c4, c5, c6]) ?_ (by simp)
  refine MHdr.modify (C := #[v0, v1, c2, c3, c4, c5, c6]) ?_ (by simp)
  refine MHdr.modify (C := #[v0, c1, c2, c3, c4, c5, c6]) ?_ (by simp)
  exact MHdr.modify (C := #[c0, c1, c2, c3, c4, c5, c6]) h (by simp)
theorem set7_keeps {S : List Nat} {w0 w : World} {B : Nat} {v0 v1 v2 v3 v4 v5 v6 : Value} (h : Keeps S w0 w) (hB : B < w0.heap.size → B ∈ S) : Keeps S w0 (((((((w.setCell ⟨B, 0, none⟩ v0).setCell ⟨B, 1, none⟩ v1).setCell ⟨B, 2, none⟩ v2).setCell ⟨B, 3, none⟩ v3).setCell ⟨B, 4, none⟩ v4).setCell ⟨B, 5, none⟩ v5).setCell ⟨B, 6, none⟩ v6) :=
  ((((((h.setCell hB _).setCell hB _).setCell hB _).setCell hB _).setCell hB _).setCell hB _).setCell hB _
noncomputable def regB8 : Code := ((Tryz.f14.body.bind (regOf 8)).getD .skip)
noncomputable def tailB8 : Code := ((Tryz.f14.body.bind (tailOf 8)).getD .skip)
noncomputable def regB14 : Code := ((Tryz.f14.body.bind (regOf 14)).getD .skip)
noncomputable def tailB14 : Code := ((Tryz.f14.body.bind (tailOf 14)).getD .skip)
noncomputable def regB19 : Code := ((Tryz.f14.body.bind (regOf 19)).getD .skip)
noncomputable def tailB19 : Code := ((Tryz.f14.body.bind (tailOf 19)).getD .skip)
noncomputable def regB23 : Code := ((Tryz.f14.body.bind (regOf 23)).getD .skip)
noncomputable def tailB23 : Code := ((Tryz.f14.body.bind (tailOf 23)).getD .skip)
noncomputable def regB24 : Code := ((Tryz.f14.body.bind (regOf 24)).getD .skip)
noncomputable def tailB24 : Code := ((Tryz.f14.body.bind (tailOf 24)).getD .skip)
noncomputable def regB25 : Code := ((Tryz.f14.body.bind (regOf 25)).getD .skip)
noncomputable def tailB25 : Code := ((Tryz.f14.body.bind (tailOf 25)).getD .skip)
noncomputable def regB26 : Code := ((Tryz.f14.body.bind (regOf 26)).getD .skip)
noncomputable def tailB26 : Code := ((Tryz.f14.body.bind (tailOf 26)).getD .skip)

end Go.Proofs.YtnfjmngchapdnaaGreatDoor
