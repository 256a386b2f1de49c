/- laws: bAwake, FnBPublic. -/
import Derived.Test.YtnfjmngchapdnaaLaws1
namespace Go.Proofs.Ytnfjmngchapdnaa
open Go.RowKit

theorem key8 {w' : World} {B : Nat} {E : Int} {a a2 a3 a4 a5 a6 a7 : Option Addr} {m cb n2 c2 n3 c3 n4 c4 n5 c5 n6 c6 n7 c7 : Nat} (h : w'.heap[B]? = some (.cells #[Value.slice a m cb, .int .i64 E, .slice a2 n2 c2, .slice a3 n3 c3, .slice a4 n4 c4, .slice a5 n5 c5, .slice a6 n6 c6, .slice a7 n7 c7] 24 (0, 0))) :
    w'.cell? ⟨B, 0, none⟩ = some (.slice a m cb) ∧ w'.cell? ⟨B, 1, none⟩ = some (.int .i64 E) ∧ w'.cell? ⟨B, 2, none⟩ = some (.slice a2 n2 c2) ∧ w'.cell? ⟨B, 3, none⟩ = some (.slice a3 n3 c3) ∧ w'.cell? ⟨B, 4, none⟩ = some (.slice a4 n4 c4) ∧ w'.cell? ⟨B, 5, none⟩ = some (.slice a5 n5 c5) ∧ w'.cell? ⟨B, 6, none⟩ = some (.slice a6 n6 c6) ∧ w'.cell? ⟨B, 7, none⟩ = some (.slice a7 n7 c7) := by
  refine ⟨?_, ?_, ?_, ?_, ?_, ?_, ?_, ?_⟩ <;> (rw [cell_of_row w' B _ _ _ _ h]; rfl)

theorem pubOk15 : 1 < bval [15] ∧ PubOk (bval [15]) 3 := by
  have : bval [15] = 15 := rfl
  rw [this]
  exact ⟨by omega, by unfold PubOk; omega⟩

set_option maxRecDepth 100000 in
set_option maxHeartbeats 2000000 in
theorem bAwake_any (w : World) :
    Calls Try.prog 7 #[] w fun e w' => e = .returned (.bool true) ∧ Keeps [] w w' := by
  have hk0 : Keeps [] w (w.alloc (.cells #[.int .u8 15] 5)) := (Keeps.refl _ _).alloc _
  have hs : SlB (w.alloc (.cells #[.int .u8 15] 5)) (some ⟨w.heap.size, 0, none⟩) 1 1 [15] := by
    refine ⟨rfl, Nat.le_refl _, fun x hx => by simp at hx; omega, fun _ => ⟨_, _, rfl, by simp, fun i hi => ?_⟩⟩
    have : i = 0 := by simp at hi; omega
    subst this
    rw [Nat.add_zero, alloc_cell]; rfl
  have HK := Lib.hid hk0; have HS := Lib.hid hs
  clear hk0 hs
  go_enter Try.func7, Try.ntmps7
  go_wp2_with fail
  refine (bPublic_any (some ⟨w.heap.size, 0, none⟩) 1 1 [15] 3 none none none none none none 0 0 0 0 0 0 0 0 0 0 0 0 _ HS.out (by omega) (by omega)).mono ?_
  rintro e w1 ⟨⟨b, rfl, hb⟩, hk1⟩
  have hb' := hb.2 pubOk15
  subst hb'
  clear hb
  go_wp2
  go_ret
  exact ⟨rfl, HK.out.trans1 hk1⟩

set_option maxRecDepth 100000 in
set_option maxHeartbeats 4000000 in
theorem fnBPublic_any (a : Option Addr) (m cb : Nat) (L : List Nat) (E : Int) (a2 a3 a4 a5 a6 a7 : Option Addr) (n2 c2 n3 c3 n4 c4 n5 c5 n6 c6 n7 c7 : Nat) (w : World) (hs : SlB w a m cb L) (hE : -9223372036854775808 ≤ E ∧ E < 9223372036854775808) :
    Calls Try.prog 3 #[.agg #[.slice a m cb, .int .i64 E, .slice a2 n2 c2, .slice a3 n3 c3, .slice a4 n4 c4, .slice a5 n5 c5, .slice a6 n6 c6, .slice a7 n7 c7]] w fun e w' => e = .returned (.bool true) ∧ Keeps [] w w' := by
  obtain ⟨B, hBB⟩ : ∃ B, B = w.heap.size := ⟨_, rfl⟩
  have hb0 : (w.alloc (.cells #[Value.slice a m cb, .int .i64 E, .slice a2 n2 c2, .slice a3 n3 c3, .slice a4 n4 c4, .slice a5 n5 c5, .slice a6 n6 c6, .slice a7 n7 c7] 24)).heap[w.heap.size]? = some (.cells #[Value.slice a m cb, .int .i64 E, .slice a2 n2 c2, .slice a3 n3 c3, .slice a4 n4 c4, .slice a5 n5 c5, .slice a6 n6 c6, .slice a7 n7 c7] 24 (0, 0)) := by
    show (w.heap.push _)[w.heap.size]? = _
    rw [Array.getElem?_push, if_pos rfl]
  have hk0 : Keeps [] w (w.alloc (.cells #[Value.slice a m cb, .int .i64 E, .slice a2 n2 c2, .slice a3 n3 c3, .slice a4 n4 c4, .slice a5 n5 c5, .slice a6 n6 c6, .slice a7 n7 c7] 24)) := (Keeps.refl _ _).alloc _
  have HK := Lib.hid hk0; have HB := Lib.hid hb0
  clear hk0 hb0
  go_enter Try.func3, Try.ntmps3
  go_wp2_with fail
  refine (zzFits4_any E a a2 a3 a4 a5 a6 a7 m cb n2 c2 n3 c3 n4 c4 n5 c5 n6 c6 n7 c7 _).mono ?_
  rintro e w1 ⟨⟨v, rfl, r, rfl⟩, hk1⟩
  have hb1 := blk_keeps HB.out hk1 (by simp)
  have hk := HK.out.trans1 hk1
  obtain ⟨k0, k1, k2, k3, k4, k5, k6, k7⟩ := key8 hb1
  have HB1 := Lib.hid hb1; have HK1 := Lib.hid hk
  clear hb1 hk hk1
  cases r
  · go_wp2
    go_ret
    exact ⟨rfl, HK1.out⟩
  · have hkt : Keeps [] w1 (w1.alloc (.cells #[.slice a m cb] 22)) := (Keeps.refl _ _).alloc _
    have hct : ∀ i, i < 1 → (w1.alloc (.cells #[.slice a m cb] 22)).cell? ⟨w1.heap.size, i, none⟩ = some (.slice ((fun _ => a) i) ((fun _ => m) i) ((fun _ => cb) i)) := by
      intro i hi
      have : i = 0 := by omega
      subst this
      rw [alloc_cell]; rfl
    have hst := (hs.kept HK1.out).kept hkt
    have hb2 := blk_keeps HB1.out hkt (by simp)
    have hk2 := HK1.out.trans1 hkt
    have HT := Lib.hid hkt; have HC := Lib.hid hct; have HST := Lib.hid hst; have HB2 := Lib.hid hb2; have HK2 := Lib.hid hk2
    clear hkt hct hst hb2 hk2
    go_wp2_with fail
    refine (bTidy_any w1.heap.size 1 1 (fun _ => a) (fun _ => m) (fun _ => cb) (fun _ => L) _ (by omega) HC.out (fun _ _ => HST.out)).mono ?_
    rintro e w2 ⟨⟨r, rfl, hr⟩, rfl⟩
    cases r
    · clear hr
      go_wp2_with fail
      refine (bAwake_any _).mono ?_
      rintro e w3 ⟨rfl, hk3⟩
      go_wp2
      go_ret
      exact ⟨rfl, HK2.out.trans1 hk3⟩
    · have ht := hr.1 rfl 0 (by omega)
      have hm : m ≤ 240 := by have := ht.1; have := hs.1; omega
      clear hr ht
      obtain ⟨w2, hw2⟩ : ∃ w2, w2 = w1.alloc (.cells #[.slice a m cb] 22) := ⟨_, rfl⟩
      rw [← hw2] at HST HB2 HK2 ⊢
      clear hw2 HT HC k0 k1 k2 k3 k4 k5 k6 k7
      have S0 := key8 HB2.out
      go_wp2_with fail
      refine wp_region_txt [1,2,0,2,0,0,2,0,0] (fun w' => w'.cell? ⟨w.heap.size, 0, none⟩ = some (.slice a m cb) ∧ w'.cell? ⟨w.heap.size, 1, none⟩ = some (.int .i64 E) ∧ w'.cell? ⟨w.heap.size, 2, none⟩ = some (.slice a2 n2 c2) ∧ w'.cell? ⟨w.heap.size, 3, none⟩ = some (.slice a3 n3 c3) ∧ w'.cell? ⟨w.heap.size, 4, none⟩ = some (.slice a4 n4 c4) ∧ w'.cell? ⟨w.heap.size, 5, none⟩ = some (.slice a5 n5 c5) ∧ w'.cell? ⟨w.heap.size, 6, none⟩ = some (.slice a6 n6 c6) ∧ w'.cell? ⟨w.heap.size, 7, none⟩ = some (.slice a7 n7 c7)) (by kernel_rfl) (by kernel_rfl) S0 ?_
      obtain ⟨k0, k1, k2, k3, k4, k5, k6, k7⟩ := S0
      simp only [withMarks]
      repeat (first
        | ((with_reducible refine txt_v (v := ?_) ?_ ?_); (any_goals ((with_reducible refine Yl.mk ?_ ?_); rfl; intro w hSw; (go_simp <;> (try go_bits) <;> (repeat (first | rw [if_pos (by omega)] | rw [if_neg (by omega)])) <;> with_reducible rfl))); try simp only [Act.put, List.setIfInBounds_toArray, List.set_cons_zero, List.set_cons_succ])
        | ((with_reducible refine txt_u ?_ ?_); rfl; try simp only [Act.put, List.setIfInBounds_toArray, List.set_cons_zero, List.set_cons_succ])
        | ((with_reducible refine txt_l (v := ?_) ?_ ?_); (any_goals ((with_reducible refine Reads.mk ?_ ?_); rfl; (go_simp <;> (try go_bits) <;> (repeat (first | rw [if_pos (by omega)] | rw [if_neg (by omega)])) <;> with_reducible rfl))); try simp only [Act.put, List.setIfInBounds_toArray, List.set_cons_zero, List.set_cons_succ])
        | ((with_reducible refine txt_e ?_ ?_); rfl; intro K hK; go_simp; (first | (refine hK _ _ (by first | exact key8 (blk_keeps HB2.out (((Keeps.refl [] w2).drew.trans1 hk3).trans1 hk4 |>.trans1 hk5) (by simp)) | exact key8 (blk_keeps HB2.out (((Keeps.refl [] w2).drew.trans1 hk3).trans1 hk4) (by simp)) | exact key8 (blk_keeps HB2.out ((Keeps.refl [] w2).drew.trans1 hk3) (by simp))) ?_) | ((first | (go_at_call 7; refine (bAwake_any _).mono ?_; rintro e w5 ⟨rfl, hk5⟩) | (go_at_call 9; refine (bPublicIs_any a m cb L E a2 a3 a4 a5 a6 a7 n2 c2 n3 c3 n4 c4 n5 c5 n6 c6 n7 c7 _ (HST.out.kept ((Keeps.refl [] w2).drew.trans1 hk3)) hm hE).mono ?_; rintro e w4 ⟨⟨r4, rfl, hr4⟩, hk4⟩; have hrr : r3 = r4 := Bool.eq_iff_iff.2 (hr3.out.trans hr4.symm); subst hrr) | (go_at_call 8; refine (bPublic_any a m cb L E a2 a3 a4 a5 a6 a7 n2 c2 n3 c3 n4 c4 n5 c5 n6 c6 n7 c7 _ (HST.out.kept (Keeps.refl [] w2).drew) hm hE).mono ?_; rintro e w3 ⟨⟨r3, rfl, hr3⟩, hk3⟩; have hr3 := Lib.hid hr3)); dsimp only; refine hK _ _ (by first | exact key8 (blk_keeps HB2.out (((Keeps.refl [] w2).drew.trans1 hk3).trans1 hk4 |>.trans1 hk5) (by simp)) | exact key8 (blk_keeps HB2.out (((Keeps.refl [] w2).drew.trans1 hk3).trans1 hk4) (by simp)) | exact key8 (blk_keeps HB2.out ((Keeps.refl [] w2).drew.trans1 hk3) (by simp))) ?_)); clear hK K; try simp only [Act.put, List.setIfInBounds_toArray, List.set_cons_zero, List.set_cons_succ]))
      refine txt_nil ?_
      go_wp2
      go_ret
      exact ⟨rfl, ((HK2.out.drew.trans1 hk3).trans1 hk4).trans1 hk5⟩

end Go.Proofs.Ytnfjmngchapdnaa
