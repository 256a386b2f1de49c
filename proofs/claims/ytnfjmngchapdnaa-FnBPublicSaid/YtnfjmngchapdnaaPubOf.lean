/- rsa.ZZNewPublicKey, ZZCheckPublicKey, impl.publicOf. -/
import Derived.Test.YtnfjmngchapdnaaClone
namespace Go.Proofs.Ytnfjmngchapdnaa
open Go.RowKit

theorem PubV.new (w : World) (pm : Nat) (E : Int) : PubV (w.alloc (.cells #[.pointer (some ⟨pm, 0, none⟩), .int .i64 E] 72)) w.heap.size pm E := by
  unfold PubV
  show (w.heap.push _)[w.heap.size]? = _
  rw [Array.getElem?_push, if_pos rfl]

set_option maxRecDepth 100000 in
set_option maxHeartbeats 1000000 in
theorem zzNewPublicKey_any (a : Option Addr) (m cb : Nat) (L : List Nat) (E : Int) (w : World) (hs : SlB w a m cb L) (hm : m ≤ 240) :
    Calls Try.prog 26 #[.slice a m cb, .int .i64 E] w fun e w' =>
      ((1 < bval L ∧ ∃ pp pm pn ln pr lr n, e = .returned (.tuple #[.pointer (some ⟨pp, 0, none⟩), .nilIface]) ∧ PubV w' pp pm E ∧ ModX w' pm pn ln pr lr n (bval L) ∧ n ≤ 30) ∨
        (bval L ≤ 1 ∧ ∃ v, e = .returned (.tuple #[.pointer none, v]) ∧ IsErr v)) ∧ Keeps [] w w' := by
  go_enter Try.func26, Try.ntmps26
  go_wp2_with fail
  rcases Nat.lt_or_ge 1 (bval L) with h1 | h1
  · refine (newModulus_bytes_ok a m cb L _ hs hm h1).mono ?_
    rintro e w1 ⟨pm, pn, ln, pr, lr, n, rfl, hX, hn, _, _, _, _, _, hk⟩
    go_wp2
    go_ret2
    have hk2 : Keeps [] w1 (w1.alloc (.cells #[.pointer (some ⟨pm, 0, none⟩), .int .i64 E] 72)) := (Keeps.refl _ _).alloc _
    exact ⟨.inl ⟨h1, _, pm, pn, ln, pr, lr, n, rfl, PubV.new w1 pm E, hX.kept hk2, hn⟩, hk.trans1 hk2⟩
  · refine (newModulus_bytes_err a m cb L _ hs hm h1).mono ?_
    rintro e w1 ⟨⟨v, rfl, t, x, rfl⟩, hk⟩
    go_wp2
    go_ret2
    exact ⟨.inr ⟨h1, _, rfl, t, x, rfl⟩, hk⟩

set_option maxRecDepth 100000 in
set_option maxHeartbeats 1000000 in
theorem zzCheckPublicKey_any (pp pm pn ln pr lr n m : Nat) (E : Int) (w : World) (hp : PubV w pp pm E) (hm : ModX w pm pn ln pr lr n m) (hE : -9223372036854775808 ≤ E ∧ E < 9223372036854775808) :
    Calls Try.prog 28 #[.pointer (some ⟨pp, 0, none⟩)] w fun e w' =>
      (∃ v, e = .returned v ∧ ((PubOk m E ∧ v = .nilIface) ∨ (¬ PubOk m E ∧ IsErr v))) ∧ Keeps [] w w' := by
  go_enter Try.func28, Try.ntmps28
  go_wp2_with fail
  refine (checkPublicKey_any pp pm pn ln pr lr n m E _ hp hm hE).mono ?_
  rintro e w1 ⟨⟨b, v, rfl, h⟩, hk⟩
  go_wp2
  go_ret
  exact ⟨⟨_, rfl, h⟩, hk⟩

theorem zzNewPublicKey_ok (a : Option Addr) (m cb : Nat) (L : List Nat) (E : Int) (w : World) (hs : SlB w a m cb L) (hm : m ≤ 240) (h1 : 1 < bval L) :
    Calls Try.prog 26 #[.slice a m cb, .int .i64 E] w fun e w' =>
      (∃ pp pm pn ln pr lr n, e = .returned (.tuple #[.pointer (some ⟨pp, 0, none⟩), .nilIface]) ∧ PubV w' pp pm E ∧ ModX w' pm pn ln pr lr n (bval L) ∧ n ≤ 30) ∧ Keeps [] w w' :=
  (zzNewPublicKey_any a m cb L E w hs hm).mono (by
    rintro e w' ⟨⟨_, h⟩ | ⟨h, _⟩, hk⟩
    · exact ⟨h, hk⟩
    · omega)
theorem zzNewPublicKey_err (a : Option Addr) (m cb : Nat) (L : List Nat) (E : Int) (w : World) (hs : SlB w a m cb L) (hm : m ≤ 240) (h1 : bval L ≤ 1) :
    Calls Try.prog 26 #[.slice a m cb, .int .i64 E] w fun e w' =>
      (∃ t x, e = .returned (.tuple #[.pointer none, .iface t x])) ∧ Keeps [] w w' :=
  (zzNewPublicKey_any a m cb L E w hs hm).mono (by
    rintro e w' ⟨⟨h, _⟩ | ⟨_, v, h, t, x, rfl⟩, hk⟩
    · omega
    · exact ⟨⟨t, x, h⟩, hk⟩)

theorem Keeps.cell {S : List Nat} {w w' : World} {b i : Nat} {v : Value} (h : w.cell? ⟨b, i, none⟩ = some v) (hk : Keeps S w w') (hb : b < w.heap.size) (hS : b ∉ S) : w'.cell? ⟨b, i, none⟩ = some v := by
  rw [← h]; exact World.cell?_of_block (w := w) (hk.block b hb hS)

set_option maxRecDepth 100000 in
set_option maxHeartbeats 2000000 in
theorem publicOf_any (a : Option Addr) (m cb : Nat) (L : List Nat) (E : Int) (a2 a3 a4 a5 a6 a7 : Option Addr) (n2 c2 n3 c3 n4 c4 n5 c5 n6 c6 n7 c7 : Nat) (w : World) (hs : SlB w a m cb L) (hm : m ≤ 240) (hE : -9223372036854775808 ≤ E ∧ E < 9223372036854775808) :
    Calls Try.prog 14 #[.agg #[.slice a m cb, .int .i64 E, .slice a2 n2 c2, .slice a3 n3 c3, .slice a4 n4 c4, .slice a5 n5 c5, .slice a6 n6 c6, .slice a7 n7 c7]] w fun e w' =>
      ((1 < bval L ∧ PubOk (bval L) E ∧ ∃ pp pm pn ln pr lr n, e = .returned (.pointer (some ⟨pp, 0, none⟩)) ∧ PubV w' pp pm E ∧ ModX w' pm pn ln pr lr n (bval L) ∧ n ≤ 30) ∨
        (¬ (1 < bval L ∧ PubOk (bval L) E) ∧ e = .returned (.pointer none))) ∧ Keeps [] w w' := by
  obtain ⟨C, hC⟩ : ∃ C, C = #[Value.slice a m cb, .int .i64 E, .slice a2 n2 c2, .slice a3 n3 c3, .slice a4 n4 c4, .slice a5 n5 c5, .slice a6 n6 c6, .slice a7 n7 c7] := ⟨_, rfl⟩
  have k0 : (w.alloc (.cells C 24)).cell? ⟨w.heap.size, 0, none⟩ = some (.slice a m cb) := by rw [alloc_cell, hC]; rfl
  have k1 : (w.alloc (.cells C 24)).cell? ⟨w.heap.size, 1, none⟩ = some (.int .i64 E) := by rw [alloc_cell, hC]; rfl
  have hk0 : Keeps [] w (w.alloc (.cells C 24)) := (Keeps.refl _ _).alloc _
  have hsz : w.heap.size < (w.alloc (.cells C 24)).heap.size := by simp
  rw [hC] at k0 k1 hk0 hsz
  clear hC C
  have HK0 := Lib.hid hk0; have HSZ := Lib.hid hsz
  clear hk0 hsz
  go_enter Try.func14, Try.ntmps14
  rcases Nat.lt_or_ge 1 (bval L) with h1 | h1
  · go_wp2_with fail
    refine wp_region_txt [0,1,2,0,0,2,0,0,0,0,0] (fun w' => w'.cell? ⟨w.heap.size, 1, none⟩ = some (.int .i64 E)) (by kernel_rfl) (by kernel_rfl) k1 ?_
    simp only [withMarks]
    repeat (first
      | ((with_reducible refine txt_v (v := ?_) ?_ ?_); (any_goals ((with_reducible refine Yl.mk ?_ ?_); rfl; intro w hSw; (go_simp <;> (try go_bits) <;> (repeat (first | rw [if_pos (by omega)] | rw [if_neg (by omega)])) <;> with_reducible rfl))); try simp only [Act.put, List.setIfInBounds_toArray, List.set_cons_zero, List.set_cons_succ])
      | ((with_reducible refine txt_u ?_ ?_); rfl; try simp only [Act.put, List.setIfInBounds_toArray, List.set_cons_zero, List.set_cons_succ])
      | ((with_reducible refine txt_l (v := ?_) ?_ ?_); (any_goals ((with_reducible refine Reads.mk ?_ ?_); rfl; (go_simp <;> (try go_bits) <;> (repeat (first | rw [if_pos (by omega)] | rw [if_neg (by omega)])) <;> with_reducible rfl))); try simp only [Act.put, List.setIfInBounds_toArray, List.set_cons_zero, List.set_cons_succ])
      | ((with_reducible refine txt_e ?_ ?_); rfl; intro K hK; go_simp; (first | (refine hK _ _ (by first | exact Keeps.cell k1 (((Keeps.refl _ _).drew.trans1 hk1).trans1 hk2) HSZ.out (by simp) | exact Keeps.cell k1 ((Keeps.refl _ _).drew.trans1 hk1) HSZ.out (by simp) | exact k1) ?_) | ((first | (go_at_call 26; refine (zzNewPublicKey_ok a1 m c1 L E _ hs1 hm h1).mono ?_; rintro e w2 ⟨⟨pp, pm, pn, ln, pr, lr, n, rfl, hP, hX, hn⟩, hk2⟩) | (go_at_call 27; refine (clone_bytes a m cb L _ (hs.kept HK0.out.drew) (by omega)).mono ?_; rintro e w1 ⟨a1, c1, rfl, hs1, _, hk1⟩)); dsimp only; refine hK _ _ (by first | exact Keeps.cell k1 (((Keeps.refl _ _).drew.trans1 hk1).trans1 hk2) HSZ.out (by simp) | exact Keeps.cell k1 ((Keeps.refl _ _).drew.trans1 hk1) HSZ.out (by simp) | exact k1) ?_)); clear hK K; try simp only [Act.put, List.setIfInBounds_toArray, List.set_cons_zero, List.set_cons_succ]))
    refine txt_nil ?_
    have hk3 := (HK0.out.drew.trans1 hk1).trans1 hk2
    go_wp2_with fail
    refine (zzCheckPublicKey_any pp pm pn ln pr lr n _ E _ hP hX hE).mono ?_
    rintro e w3 ⟨⟨v, rfl, ⟨hok, rfl⟩ | ⟨hno, t, x, rfl⟩⟩, hk4⟩
    · go_wp2
      go_ret
      exact ⟨.inl ⟨h1, hok, pp, pm, pn, ln, pr, lr, n, rfl, hP.kept hk4, hX.kept hk4, hn⟩, hk3.trans1 hk4⟩
    · go_wp2
      go_ret
      exact ⟨.inr ⟨fun h => hno h.2, rfl⟩, hk3.trans1 hk4⟩
  · go_wp2_with fail
    refine wp_region_txt [0,1,2,0,0,2,0,0,0,0,0] (fun w' => w'.cell? ⟨w.heap.size, 1, none⟩ = some (.int .i64 E)) (by kernel_rfl) (by kernel_rfl) k1 ?_
    simp only [withMarks]
    repeat (first
      | ((with_reducible refine txt_v (v := ?_) ?_ ?_); (any_goals ((with_reducible refine Yl.mk ?_ ?_); rfl; intro w hSw; (go_simp <;> (try go_bits) <;> (repeat (first | rw [if_pos (by omega)] | rw [if_neg (by omega)])) <;> with_reducible rfl))); try simp only [Act.put, List.setIfInBounds_toArray, List.set_cons_zero, List.set_cons_succ])
      | ((with_reducible refine txt_u ?_ ?_); rfl; try simp only [Act.put, List.setIfInBounds_toArray, List.set_cons_zero, List.set_cons_succ])
      | ((with_reducible refine txt_l (v := ?_) ?_ ?_); (any_goals ((with_reducible refine Reads.mk ?_ ?_); rfl; (go_simp <;> (try go_bits) <;> (repeat (first | rw [if_pos (by omega)] | rw [if_neg (by omega)])) <;> with_reducible rfl))); try simp only [Act.put, List.setIfInBounds_toArray, List.set_cons_zero, List.set_cons_succ])
      | ((with_reducible refine txt_e ?_ ?_); rfl; intro K hK; go_simp; (first | (refine hK _ _ (by first | exact Keeps.cell k1 (((Keeps.refl _ _).drew.trans1 hk1).trans1 hk2) HSZ.out (by simp) | exact Keeps.cell k1 ((Keeps.refl _ _).drew.trans1 hk1) HSZ.out (by simp) | exact k1) ?_) | ((first | (go_at_call 26; refine (zzNewPublicKey_err a1 m c1 L E _ hs1 hm h1).mono ?_; rintro e w2 ⟨⟨t, x, rfl⟩, hk2⟩) | (go_at_call 27; refine (clone_bytes a m cb L _ (hs.kept HK0.out.drew) (by omega)).mono ?_; rintro e w1 ⟨a1, c1, rfl, hs1, _, hk1⟩)); dsimp only; refine hK _ _ (by first | exact Keeps.cell k1 (((Keeps.refl _ _).drew.trans1 hk1).trans1 hk2) HSZ.out (by simp) | exact Keeps.cell k1 ((Keeps.refl _ _).drew.trans1 hk1) HSZ.out (by simp) | exact k1) ?_)); clear hK K; try simp only [Act.put, List.setIfInBounds_toArray, List.set_cons_zero, List.set_cons_succ]))
    refine txt_nil ?_
    have hk3 := (HK0.out.drew.trans1 hk1).trans1 hk2
    go_wp2
    go_ret
    exact ⟨.inr ⟨fun h => by omega, rfl⟩, hk3⟩

end Go.Proofs.Ytnfjmngchapdnaa
