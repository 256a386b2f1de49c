import Derived.Test.YtnfjmngchapdnaaDoorMEncPk
import Derived.Test.YtnfjmngchapdnaaDoorMRsaPub
/- impl.BEncrypt. -/
namespace Go.Proofs.YtnfjmngchapdnaaDoor
open Go.RowKit

set_option maxRecDepth 100000 in
set_option maxHeartbeats 1000000 in
theorem newReader_any (a : Option Addr) (nR cR : Nat) (w : World) :
    Calls Tryd.prog 16 #[.slice a nR cR] w fun e w' => (∃ rp : Nat, e = .returned (.pointer (some ⟨rp, 0, none⟩)) ∧ RdV w' rp a nR cR 0 ∧ w.heap.size ≤ rp) ∧ Keeps [] w w' := by
  go_enter Tryd.func16, Tryd.ntmps16
  go_wp2
  go_ret
  refine ⟨⟨w.heap.size, rfl, ⟨-1, ?_⟩, Nat.le_refl _⟩, (Keeps.refl _ _).alloc _⟩
  show (w.heap.push _)[w.heap.size]? = _
  rw [Array.getElem?_push, if_pos rfl]
  rfl

theorem SlB.beside {w : World} {a : Option Addr} {n c g : Nat} {L : List Nat} {b : Bool} (h : SlB w a n c L) (hg : w.heap[g]? = some (.cells #[.bool b] 4 (0, 0))) (v : Value) : SlB (w.setCell ⟨g, 0, none⟩ v) a n c L := by
  obtain ⟨h1, h2, h3, h4⟩ := h
  refine ⟨h1, h2, h3, fun hne => ?_⟩
  obtain ⟨b', o, e, hb, hB⟩ := h4 hne
  have hbg : b' ≠ g := by
    rintro rfl
    have h0 := hB 0 (List.length_pos_iff.2 hne)
    rw [cell_of_row w b' _ _ _ _ hg] at h0
    rcases Nat.eq_zero_or_pos (o + 0) with h5 | h5
    · rw [h5] at h0; simp at h0
    · rw [Array.getElem?_eq_none (by simp; omega)] at h0
      simp at h0
  exact ⟨b', o, e, by simpa [World.setCell] using hb, hB.keeps hb ((Keeps.refl [g] w).setCell (p := ⟨g, 0, none⟩) (by simp) v) (by simpa using hbg)⟩
/-- What the thin package's sealing leaves. -/
def BEncR (e : Ending) (w' : World) (N : Nat) (E : Int) (S ml nR : Nat) (M : List Nat) (tot : Option (List Nat × List Nat)) : Prop :=
  ((1 < N ∧ PubOk N E) ∧ 1024 ≤ blen N ∧ ml + 11 ≤ S ∧ S - ml - 3 ≤ nR ∧ ∃ P T, tot = some (P, T) ∧ ∃ B O, e = .returned (.tuple #[.slice (some ⟨B, 0, none⟩) S S, .bool true]) ∧ O.length = S ∧ LtB O ∧ bval O = bval ([0, 2] ++ P ++ [0] ++ M) ^ E.toNat % N ∧ SlB w' (some ⟨B, 0, none⟩) S S O) ∨
    ((¬ (1 < N ∧ PubOk N E) ∨ blen N < 1024 ∨ S < ml + 11 ∨ nR < S - ml - 3 ∨ tot = none) ∧ ∃ x, e = .returned (.tuple #[x, .bool false]))

set_option maxRecDepth 100000 in
set_option maxHeartbeats 4000000 in
theorem bEncrypt_any (a : Option Addr) (m cb : Nat) (L : List Nat) (E : Int) (a2 a3 a4 a5 a6 a7 : Option Addr) (n2 c2 n3 c3 n4 c4 n5 c5 n6 c6 n7 c7 : Nat) (aR : Option Addr) (nR cR : Nat) (R : List Nat) (aM : Option Addr) (ml mc : Nat) (M : List Nat) (w : World) (a0 a1 a2' a3' : Addr)
    (hg : Gl w a0 a1 a2' a3') (hs : SlB w a m cb L) (hm : m ≤ 240) (hE : -9223372036854775808 ≤ E ∧ E < 9223372036854775808) (hR : SlB w aR nR cR R) (hM : SlB w aM ml mc M) (hnR : nR ≤ 300) (hml : ml ≤ 300) :
    Calls Tryd.prog 8 #[.agg #[.slice a m cb, .int .i64 E, .slice a2 n2 c2, .slice a3 n3 c3, .slice a4 n4 c4, .slice a5 n5 c5, .slice a6 n6 c6, .slice a7 n7 c7], .slice aR nR cR, .slice aM ml mc] w fun e w' =>
      BEncR e w' (bval L) E ((blen (bval L) + 7) / 8) ml nR M (fixAll (R.take ((blen (bval L) + 7) / 8 - ml - 3)) (R.drop ((blen (bval L) + 7) / 8 - ml - 3))) ∧ Keeps [] w w' := by
  have hk0 : Keeps [] w ((w.alloc (.cells #[Value.slice a m cb, .int .i64 E, .slice a2 n2 c2, .slice a3 n3 c3, .slice a4 n4 c4, .slice a5 n5 c5, .slice a6 n6 c6, .slice a7 n7 c7] 24)).alloc (.cells #[.bool false] 4)) := ((Keeps.refl _ _).alloc _).alloc _
  have hb0 : ((w.alloc (.cells #[Value.slice a m cb, .int .i64 E, .slice a2 n2 c2, .slice a3 n3 c3, .slice a4 n4 c4, .slice a5 n5 c5, .slice a6 n6 c6, .slice a7 n7 c7] 24)).alloc (.cells #[.bool false] 4)).heap[w.heap.size + 1]? = some (.cells #[.bool false] 4 (0, 0)) := by
    show ((w.heap.push _).push _)[w.heap.size + 1]? = _
    rw [Array.getElem?_push, if_pos (by simp)]
  have HK0 := Lib.hid hk0; have HB0 := Lib.hid hb0
  clear hk0 hb0
  obtain ⟨S, hS⟩ : ∃ S, S = (blen (bval L) + 7) / 8 := ⟨_, rfl⟩
  have HS := Lib.hid hS
  clear hS
  go_enter_defers Tryd.func8, Tryd.ntmps8
  go_wp2_with fail
  refine (publicOf_any a m cb L E a2 a3 a4 a5 a6 a7 n2 c2 n3 c3 n4 c4 n5 c5 n6 c6 n7 c7 _ (hs.kept HK0.out) hm hE).mono ?_
  rintro e w1 ⟨⟨h1, h2, pp, pm, pn, ln, pr, lr, n, rfl, hP, hX, hn⟩ | ⟨hno, rfl⟩, hk1⟩
  · have hb2 := blk_keeps HB0.out hk1 (by simp)
    have hkk := HK0.out.trans1 hk1
    obtain ⟨ke, hke⟩ : ∃ ke : Nat, E = (ke : Int) := ⟨E.toNat, by have := h2.2.1; omega⟩
    subst hke
    have hsz1 : w.heap.size + 2 ≤ w1.heap.size := by have := hk1.size; simpa using this
    have HB2 := Lib.hid hb2; have HK1 := Lib.hid hkk; have HP := Lib.hid hP; have HX := Lib.hid hX; have H2 := Lib.hid h2
    clear hb2 hkk hk1 hP hX h2
    go_wp2_with fail
    refine (newReader_any aR nR cR _).mono ?_
    rintro e w2 ⟨⟨rp, rfl, hrd, hrp⟩, hk2⟩
    go_wp2_with fail
    refine (clone_bytes aM ml mc M _ (hM.kept (HK1.out.trans1 hk2)) (by omega)).mono ?_
    rintro e w3 ⟨aC, cC, rfl, hsC, hnew, hk3⟩
    have hk13 := hk2.trans1 hk3
    have o := HX.out.old hrp
    have hpl := HP.out.lt
    have hgs := (hg.keeps HK1.out (by simp)).size
    have hee := encPkcs_any rp nR cR aR R pp pm pn ln pr lr n (bval L) ke aC ml cC M w3 a0 a1 a2' a3' (hg.keeps (HK1.out.trans1 hk13) (by simp)) (hrd.keeps hk3 (by simp)) (hR.kept (HK1.out.trans1 hk13)) (by omega) (by omega) (HP.out.kept hk13) (HX.out.kept hk13) H2.out hsC (by omega) ⟨by omega, Ne.symm o.1, Ne.symm o.2.1, Ne.symm o.2.2.1, Ne.symm o.2.2.2.1, Ne.symm o.2.2.2.2⟩ (fun hM0 s o' e => by
      obtain ⟨b', e', hb'⟩ := hnew hM0
      obtain ⟨pr0, hrd'⟩ := hrd
      have hlt := lt_of_block hrd'
      rw [e] at e'
      simp only [Option.some.injEq, Addr.mk.injEq, and_true] at e'
      omega)
    have HEE := Lib.hid hee; have HK3 := Lib.hid (HK1.out.trans1 hk13)
    have hb3 := blk_keeps HB2.out hk13 (by simp)
    have HB3 := Lib.hid hb3
    clear hee hrd hsC hnew hk2 hk3 hk13 o hb3
    go_wp2_with fail
    refine HEE.out.mono ?_
    rintro e w4 ⟨⟨q1, q2, q3, P, T, q4, q5, q6, B, O, rfl, q7, q8, q9, q10⟩ | ⟨hno, x, t, v, rfl⟩, hk4⟩
    · have hb4 := blk_keeps HB3.out hk4 (by simp; omega)
      have cc := cell_of_one hb4
      have ff := free_of_one hb4
      have HQ := Lib.hid q10; have HK4 := Lib.hid (HK3.out.trans hk4 (by intro x hx hlt; simp at hx; omega))
      clear q10 hk4
      go_wp2_with fail
      refine wp_region_txt [0,0,0,0,2] (fun _ => True) (by kernel_rfl) (by kernel_rfl) trivial ?_
      simp only [withMarks]
      repeat (first
        | ((with_reducible refine txt_v (v := ?_) ?_ ?_); (any_goals ((with_reducible refine Yl.mk ?_ ?_); rfl; intro w hSw; (go_simp <;> (try go_bits) <;> (repeat (first | rw [if_pos (by omega)] | rw [if_neg (by omega)])) <;> with_reducible rfl))); try simp only [Act.put, List.setIfInBounds_toArray, List.set_cons_zero, List.set_cons_succ])
        | ((with_reducible refine txt_u ?_ ?_); rfl; try simp only [Act.put, List.setIfInBounds_toArray, List.set_cons_zero, List.set_cons_succ])
        | ((with_reducible refine txt_l (v := ?_) ?_ ?_); (any_goals ((with_reducible refine Reads.mk ?_ ?_); rfl; (go_simp <;> (try go_bits) <;> (repeat (first | rw [if_pos (by omega)] | rw [if_neg (by omega)])) <;> with_reducible rfl))); try simp only [Act.put, List.setIfInBounds_toArray, List.set_cons_zero, List.set_cons_succ])
        | ((with_reducible refine txt_e ?_ ?_); rfl; intro K hK; go_simp; (first | (refine hK _ _ trivial ?_) | ((first | fail); dsimp only; refine hK _ _ trivial ?_)); clear hK K; try simp only [Act.put, List.setIfInBounds_toArray, List.set_cons_zero, List.set_cons_succ]))
      refine txt_nil ?_
      go_wp2
      refine leaves_cons (f := 13) (args := #[.pointer (some ⟨w.heap.size + 1, 0, none⟩)]) (by simp) (by simp [go_sem]) ?_
      refine (kept_idle ⟨w.heap.size + 1, 0, none⟩ _).mono ?_
      rintro e u' w'' ⟨rfl, rfl, rfl⟩
      have hb5 := one_setCell (u := .bool true) hb4
      have d3 := cell_of_one hb5
      have hk5 := HK4.out.setCell (p := ⟨w.heap.size + 1, 0, none⟩) (fun h => absurd h (by simp)) (.bool true)
      have hs5 := SlB.beside HQ.out hb4 (.bool true)
      simp [Leaves, settle, results, Tryd.results8, go_sem, d3]
      exact ⟨.inl ⟨⟨h1, H2.out⟩, q1, q2, q3, P, T, q4, B, O, rfl, q7, q8, q9, hs5⟩, hk5.drew⟩
    · have hb4 := blk_keeps HB3.out hk4 (by simp; omega)
      have cc := cell_of_one hb4
      have ff := free_of_one hb4
      have HK4 := Lib.hid (HK3.out.trans hk4 (by intro x hx hlt; simp at hx; omega))
      clear hk4
      go_wp2_with fail
      refine wp_region_txt [0,0,0,0,2] (fun _ => True) (by kernel_rfl) (by kernel_rfl) trivial ?_
      simp only [withMarks]
      repeat (first
        | ((with_reducible refine txt_v (v := ?_) ?_ ?_); (any_goals ((with_reducible refine Yl.mk ?_ ?_); rfl; intro w hSw; (go_simp <;> (try go_bits) <;> (repeat (first | rw [if_pos (by omega)] | rw [if_neg (by omega)])) <;> with_reducible rfl))); try simp only [Act.put, List.setIfInBounds_toArray, List.set_cons_zero, List.set_cons_succ])
        | ((with_reducible refine txt_u ?_ ?_); rfl; try simp only [Act.put, List.setIfInBounds_toArray, List.set_cons_zero, List.set_cons_succ])
        | ((with_reducible refine txt_l (v := ?_) ?_ ?_); (any_goals ((with_reducible refine Reads.mk ?_ ?_); rfl; (go_simp <;> (try go_bits) <;> (repeat (first | rw [if_pos (by omega)] | rw [if_neg (by omega)])) <;> with_reducible rfl))); try simp only [Act.put, List.setIfInBounds_toArray, List.set_cons_zero, List.set_cons_succ])
        | ((with_reducible refine txt_e ?_ ?_); rfl; intro K hK; go_simp; (first | (refine hK _ _ trivial ?_) | ((first | fail); dsimp only; refine hK _ _ trivial ?_)); clear hK K; try simp only [Act.put, List.setIfInBounds_toArray, List.set_cons_zero, List.set_cons_succ]))
      refine txt_nil ?_
      go_wp2
      refine leaves_cons (f := 13) (args := #[.pointer (some ⟨w.heap.size + 1, 0, none⟩)]) (by simp) (by simp [go_sem]) ?_
      refine (kept_idle ⟨w.heap.size + 1, 0, none⟩ _).mono ?_
      rintro e u' w'' ⟨rfl, rfl, rfl⟩
      have hb5 := one_setCell (u := .bool false) hb4
      have d3 := cell_of_one hb5
      have hk5 := HK4.out.setCell (p := ⟨w.heap.size + 1, 0, none⟩) (fun h => absurd h (by simp)) (.bool false)
      simp [Leaves, settle, results, Tryd.results8, go_sem, d3]
      exact ⟨.inr ⟨.inr hno, _, rfl⟩, hk5.drew⟩
  · have hb2 := blk_keeps HB0.out hk1 (by simp)
    have cc := cell_of_one hb2
    have ff := free_of_one hb2
    go_wp2
    refine leaves_cons (f := 13) (args := #[.pointer (some ⟨w.heap.size + 1, 0, none⟩)]) (by simp) (by simp [go_sem]) ?_
    refine (kept_idle ⟨w.heap.size + 1, 0, none⟩ _).mono ?_
    rintro e u' w'' ⟨rfl, rfl, rfl⟩
    have hb3 := one_setCell (u := .bool false) hb2
    have d3 := cell_of_one hb3
    have hk3 := (HK0.out.trans1 hk1).setCell (p := ⟨w.heap.size + 1, 0, none⟩) (fun h => absurd h (by simp)) (.bool false)
    simp [Leaves, settle, results, Tryd.results8, go_sem, d3]
    exact ⟨.inr ⟨.inl hno, _, rfl⟩, hk3⟩

end Go.Proofs.YtnfjmngchapdnaaDoor
