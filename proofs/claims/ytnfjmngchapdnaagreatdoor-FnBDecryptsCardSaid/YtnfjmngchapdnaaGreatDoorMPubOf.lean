import Derived.Test.YtnfjmngchapdnaaGreatDoorMClone
import Derived.Test.YtnfjmngchapdnaaGreatDoorMLOf
import Derived.Laws.BytesArg
import Derived.Test.YtnfjmngchapdnaaGreatDoorMLTake
import Derived.Test.YtnfjmngchapdnaaGreatDoorMLRest
/- rsa.ZZNewPublicKey, ZZCheckPublicKey, impl.publicOf. -/
namespace Go.Proofs.YtnfjmngchapdnaaGreatDoor
open Go.RowKit

theorem PubV.new (w : World) (pm : Nat) (E : Int) : PubV (w.alloc (.cells #[.pointer (some ⟨pm, 0, none⟩), .int .i64 E] 97)) w.heap.size pm E := by
  unfold PubV
  show (w.heap.push _)[w.heap.size]? = _
  rw [Array.getElem?_push, if_pos rfl]

set_option maxRecDepth 100000 in
set_option maxHeartbeats 1000000 in
theorem zzNewPublicKey_any (a : Option Addr) (m cb : Nat) (L : List Nat) (E : Int) (w : World) (hs : SlB w a m cb L) (hm : m ≤ 240) :
    Calls Tryz.prog 48 #[.slice a m cb, .int .i64 E] w fun e w' =>
      ((1 < bval L ∧ ∃ pp pm pn ln pr lr n, e = .returned (.tuple #[.pointer (some ⟨pp, 0, none⟩), .nilIface]) ∧ PubV w' pp pm E ∧ ModX w' pm pn ln pr lr n (bval L) ∧ n ≤ 30) ∨
        (bval L ≤ 1 ∧ ∃ v, e = .returned (.tuple #[.pointer none, v]) ∧ IsErr v)) ∧ Keeps [] w w' := by
  go_enter Tryz.func48, Tryz.ntmps48
  go_wp2_with fail
  rcases Nat.lt_or_ge 1 (bval L) with h1 | h1
  · refine (newModulus_bytes_ok a m cb L _ hs hm h1).mono ?_
    rintro e w1 ⟨pm, pn, ln, pr, lr, n, rfl, hX, hn, _, _, _, _, _, hk⟩
    go_wp2
    go_ret2
    have hk2 : Keeps [] w1 (w1.alloc (.cells #[.pointer (some ⟨pm, 0, none⟩), .int .i64 E] 97)) := (Keeps.refl _ _).alloc _
    exact ⟨.inl ⟨h1, _, pm, pn, ln, pr, lr, n, rfl, PubV.new w1 pm E, hX.kept hk2, hn⟩, hk.trans1 hk2⟩
  · refine (newModulus_bytes_err a m cb L _ hs hm h1).mono ?_
    rintro e w1 ⟨⟨v, rfl, t, x, rfl⟩, hk⟩
    go_wp2
    go_ret2
    exact ⟨.inr ⟨h1, _, rfl, t, x, rfl⟩, hk⟩

set_option maxRecDepth 100000 in
set_option maxHeartbeats 1000000 in
theorem zzCheckPublicKey_any (pp pm pn ln pr lr n m : Nat) (E : Int) (w : World) (hp : PubV w pp pm E) (hm : ModX w pm pn ln pr lr n m) (hE : -9223372036854775808 ≤ E ∧ E < 9223372036854775808) :
    Calls Tryz.prog 49 #[.pointer (some ⟨pp, 0, none⟩)] w fun e w' =>
      (∃ v, e = .returned v ∧ ((PubOk m E ∧ v = .nilIface) ∨ (¬ PubOk m E ∧ IsErr v))) ∧ Keeps [] w w' := by
  go_enter Tryz.func49, Tryz.ntmps49
  go_wp2_with fail
  refine (checkPublicKey_any pp pm pn ln pr lr n m E _ hp hm hE).mono ?_
  rintro e w1 ⟨⟨b, v, rfl, h⟩, hk⟩
  go_wp2
  go_ret
  exact ⟨⟨_, rfl, h⟩, hk⟩

theorem zzNewPublicKey_ok (a : Option Addr) (m cb : Nat) (L : List Nat) (E : Int) (w : World) (hs : SlB w a m cb L) (hm : m ≤ 240) (h1 : 1 < bval L) :
    Calls Tryz.prog 48 #[.slice a m cb, .int .i64 E] w fun e w' =>
      (∃ pp pm pn ln pr lr n, e = .returned (.tuple #[.pointer (some ⟨pp, 0, none⟩), .nilIface]) ∧ PubV w' pp pm E ∧ ModX w' pm pn ln pr lr n (bval L) ∧ n ≤ 30) ∧ Keeps [] w w' :=
  (zzNewPublicKey_any a m cb L E w hs hm).mono (by
    rintro e w' ⟨⟨_, h⟩ | ⟨h, _⟩, hk⟩
    · exact ⟨h, hk⟩
    · omega)
theorem zzNewPublicKey_err (a : Option Addr) (m cb : Nat) (L : List Nat) (E : Int) (w : World) (hs : SlB w a m cb L) (hm : m ≤ 240) (h1 : bval L ≤ 1) :
    Calls Tryz.prog 48 #[.slice a m cb, .int .i64 E] w fun e w' =>
      (∃ t x, e = .returned (.tuple #[.pointer none, .iface t x])) ∧ Keeps [] w w' :=
  (zzNewPublicKey_any a m cb L E w hs hm).mono (by
    rintro e w' ⟨⟨h, _⟩ | ⟨_, v, h, t, x, rfl⟩, hk⟩
    · omega
    · exact ⟨⟨t, x, h⟩, hk⟩)

theorem Keeps.cell {S : List Nat} {w w' : World} {b i : Nat} {v : Value} (h : w.cell? ⟨b, i, none⟩ = some v) (hk : Keeps S w w') (hb : b < w.heap.size) (hS : b ∉ S) : w'.cell? ⟨b, i, none⟩ = some v := by
  rw [← h]; exact World.cell?_of_block (w := w) (hk.block b hb hS)

set_option maxRecDepth 100000 in
set_option maxHeartbeats 2000000 in
theorem publicOf_any (a : Option Addr) (m cb : Nat) (L : List Nat) (E : Int) (a2 a3 a4 a5 a6 a7 : Option Addr) (n2 c2 n3 c3 n4 c4 n5 c5 n6 c6 n7 c7 : Nat) (w : World) (hs : SlB w a m cb L) (hm : m ≤ 240) (hE : -9223372036854775808 ≤ E ∧ E < 9223372036854775808) :
    Calls Tryz.prog 36 #[.agg #[.slice a m cb, .int .i64 E, .slice a2 n2 c2, .slice a3 n3 c3, .slice a4 n4 c4, .slice a5 n5 c5, .slice a6 n6 c6, .slice a7 n7 c7]] w fun e w' =>
      ((1 < bval L ∧ PubOk (bval L) E ∧ ∃ pp pm pn ln pr lr n, e = .returned (.pointer (some ⟨pp, 0, none⟩)) ∧ PubV w' pp pm E ∧ ModX w' pm pn ln pr lr n (bval L) ∧ n ≤ 30) ∨
        (¬ (1 < bval L ∧ PubOk (bval L) E) ∧ e = .returned (.pointer none))) ∧ Keeps [] w w' := by
  obtain ⟨C, hC⟩ : ∃ C, C = #[Value.slice a m cb, .int .i64 E, .slice a2 n2 c2, .slice a3 n3 c3, .slice a4 n4 c4, .slice a5 n5 c5, .slice a6 n6 c6, .slice a7 n7 c7] := ⟨_, rfl⟩
  have k0 : (w.alloc (.cells C 24)).cell? ⟨w.heap.size, 0, none⟩ = some (.slice a m cb) := by rw [alloc_cell, hC]; rfl
  have k1 : (w.alloc (.cells C 24)).cell? ⟨w.heap.size, 1, none⟩ = some (.int .i64 E) := by rw [alloc_cell, hC]; rfl
  have hk0 : Keeps [] w (w.alloc (.cells C 24)) := (Keeps.refl _ _).alloc _
  have hsz : w.heap.size < (w.alloc (.cells C 24)).heap.size := by simp
  rw [hC] at k0 k1 hk0 hsz
  clear hC C
  have HK0 := Lib.hid hk0; have HSZ := Lib.hid hsz
  clear hk0 hsz
  go_enter Tryz.func36, Tryz.ntmps36
  rcases Nat.lt_or_ge 1 (bval L) with h1 | h1
  · go_wp2_with fail
    refine wp_region_txt [0,1,2,0,0,2,0,0,0,0,0] (fun w' => w'.cell? ⟨w.heap.size, 1, none⟩ = some (.int .i64 E)) (by kernel_rfl) (by kernel_rfl) k1 ?_
    simp only [withMarks]
    repeat (first
      | ((with_reducible refine txt_v (v := ?_) ?_ ?_); (any_goals ((with_reducible refine Yl.mk ?_ ?_); rfl; intro w hSw; (go_simp <;> (try go_bits) <;> (repeat (first | rw [if_pos (by omega)] | rw [if_neg (by omega)])) <;> with_reducible rfl))); try simp only [Act.put, List.setIfInBounds_toArray, List.set_cons_zero, List.set_cons_succ])
      | ((with_reducible refine txt_u ?_ ?_); rfl; try simp only [Act.put, List.setIfInBounds_toArray, List.set_cons_zero, List.set_cons_succ])
      | ((with_reducible refine txt_l (v := ?_) ?_ ?_); (any_goals ((with_reducible refine Reads.mk ?_ ?_); rfl; (go_simp <;> (try go_bits) <;> (repeat (first | rw [if_pos (by omega)] | rw [if_neg (by omega)])) <;> with_reducible rfl))); try simp only [Act.put, List.setIfInBounds_toArray, List.set_cons_zero, List.set_cons_succ])
      | ((with_reducible refine txt_e ?_ ?_); rfl; intro K hK; go_simp; (first | (refine hK _ _ (by first | exact Keeps.cell k1 (((Keeps.refl _ _).drew.trans1 hk1).trans1 hk2) HSZ.out (by simp) | exact Keeps.cell k1 ((Keeps.refl _ _).drew.trans1 hk1) HSZ.out (by simp) | exact k1) ?_) | ((first | (go_at_call 48; refine (zzNewPublicKey_ok a1 m c1 L E _ hs1 hm h1).mono ?_; rintro e w2 ⟨⟨pp, pm, pn, ln, pr, lr, n, rfl, hP, hX, hn⟩, hk2⟩) | (go_at_call 25; refine (clone_bytes a m cb L _ (hs.kept HK0.out.drew) (by omega)).mono ?_; rintro e w1 ⟨a1, c1, rfl, hs1, _, hk1⟩)); dsimp only; refine hK _ _ (by first | exact Keeps.cell k1 (((Keeps.refl _ _).drew.trans1 hk1).trans1 hk2) HSZ.out (by simp) | exact Keeps.cell k1 ((Keeps.refl _ _).drew.trans1 hk1) HSZ.out (by simp) | exact k1) ?_)); clear hK K; try simp only [Act.put, List.setIfInBounds_toArray, List.set_cons_zero, List.set_cons_succ]))
    refine txt_nil ?_
    have hk3 := (HK0.out.drew.trans1 hk1).trans1 hk2
    go_wp2_with fail
    refine (zzCheckPublicKey_any pp pm pn ln pr lr n _ E _ hP hX hE).mono ?_
    rintro e w3 ⟨⟨v, rfl, ⟨hok, rfl⟩ | ⟨hno, t, x, rfl⟩⟩, hk4⟩
    · go_wp2
      go_ret
      exact ⟨.inl ⟨h1, hok, pp, pm, pn, ln, pr, lr, n, rfl, hP.kept hk4, hX.kept hk4, hn⟩, hk3.trans1 hk4⟩
    · go_wp2
      go_ret
      exact ⟨.inr ⟨fun h => hno h.2, rfl⟩, hk3.trans1 hk4⟩
  · go_wp2_with fail
    refine wp_region_txt [0,1,2,0,0,2,0,0,0,0,0] (fun w' => w'.cell? ⟨w.heap.size, 1, none⟩ = some (.int .i64 E)) (by kernel_rfl) (by kernel_rfl) k1 ?_
    simp only [withMarks]
    repeat (first
      | ((with_reducible refine txt_v (v := ?_) ?_ ?_); (any_goals ((with_reducible refine Yl.mk ?_ ?_); rfl; intro w hSw; (go_simp <;> (try go_bits) <;> (repeat (first | rw [if_pos (by omega)] | rw [if_neg (by omega)])) <;> with_reducible rfl))); try simp only [Act.put, List.setIfInBounds_toArray, List.set_cons_zero, List.set_cons_succ])
      | ((with_reducible refine txt_u ?_ ?_); rfl; try simp only [Act.put, List.setIfInBounds_toArray, List.set_cons_zero, List.set_cons_succ])
      | ((with_reducible refine txt_l (v := ?_) ?_ ?_); (any_goals ((with_reducible refine Reads.mk ?_ ?_); rfl; (go_simp <;> (try go_bits) <;> (repeat (first | rw [if_pos (by omega)] | rw [if_neg (by omega)])) <;> with_reducible rfl))); try simp only [Act.put, List.setIfInBounds_toArray, List.set_cons_zero, List.set_cons_succ])
      | ((with_reducible refine txt_e ?_ ?_); rfl; intro K hK; go_simp; (first | (refine hK _ _ (by first | exact Keeps.cell k1 (((Keeps.refl _ _).drew.trans1 hk1).trans1 hk2) HSZ.out (by simp) | exact Keeps.cell k1 ((Keeps.refl _ _).drew.trans1 hk1) HSZ.out (by simp) | exact k1) ?_) | ((first | (go_at_call 48; refine (zzNewPublicKey_err a1 m c1 L E _ hs1 hm h1).mono ?_; rintro e w2 ⟨⟨t, x, rfl⟩, hk2⟩) | (go_at_call 25; refine (clone_bytes a m cb L _ (hs.kept HK0.out.drew) (by omega)).mono ?_; rintro e w1 ⟨a1, c1, rfl, hs1, _, hk1⟩)); dsimp only; refine hK _ _ (by first | exact Keeps.cell k1 (((Keeps.refl _ _).drew.trans1 hk1).trans1 hk2) HSZ.out (by simp) | exact Keeps.cell k1 ((Keeps.refl _ _).drew.trans1 hk1) HSZ.out (by simp) | exact k1) ?_)); clear hK K; try simp only [Act.put, List.setIfInBounds_toArray, List.set_cons_zero, List.set_cons_succ]))
    refine txt_nil ?_
    have hk3 := (HK0.out.drew.trans1 hk1).trans1 hk2
    go_wp2
    go_ret
    exact ⟨.inr ⟨fun h => by omega, rfl⟩, hk3⟩

end Go.Proofs.YtnfjmngchapdnaaGreatDoor

/- spec.BPublicIs. -/
namespace Go.Proofs.YtnfjmngchapdnaaGreatDoor
open Go.RowKit

/-- The Bool that was returned says whether p. -/
def Says (e : Ending) (p : Prop) : Prop := ∃ b, e = .returned (.bool b) ∧ (b = true ↔ p)
theorem Says.no {p : Prop} (h : ¬ p) : Says (.returned (.bool false)) p := ⟨false, rfl, by simp [h]⟩
theorem Says.yes {p : Prop} (h : p) : Says (.returned (.bool true)) p := ⟨true, rfl, by simp [h]⟩
theorem und_string : Tryz.prog.underlying 9 = some .string := by kernel_rfl
theorem und_u8 : Tryz.prog.underlying 5 = some (.int .u8) := by kernel_rfl

theorem convert_bytes {w : World} {a : Option Addr} {m c : Nat} {L : List Nat} (h : SlB w a m c L) :
    ∃ s : ByteArray, (convert 22 9 (.slice a m c)).run Tryz.prog w = .ok (.string s) w ∧ bytesOf s = L ∧ s.size = m := by
  obtain ⟨h1, h2, h3, h4⟩ := h
  rcases List.eq_nil_or_concat L with hL | hL
  · subst hL
    have hm : m = 0 := by rw [← h1]; rfl
    subst hm
    rcases a with _ | ad
    · exact ⟨_, run_convert_bytes_nil w _ _ und_bytes und_u8 0 c _ und_string, rfl, rfl⟩
    · refine ⟨_, by rw [run_convert_bytes_string w _ _ _ (some ad) 0 c und_bytes und_u8 und_string, run_bytesToString w ad 0 c [] (by simp [loadCells, loadCellsFrom])], rfl, rfl⟩
  · have hne : L ≠ [] := by obtain ⟨_, _, h⟩ := hL; rw [h]; simp
    obtain ⟨b, o, rfl, hb, hB⟩ := h4 hne
    refine ⟨_, run_convert_bytes_arg w _ _ und_bytes und_u8 b o m c (L.map fun (x : Nat) => (x : Int)) (by simpa using h1) (fun i hi => ?_) _ und_string, ?_, ?_⟩
    · rw [hB i (by omega)]
      simp [List.getD, show i < L.length by omega]
    · unfold bytesOf strOfNums
      simp only [List.toList_toArray, List.map_map]
      conv => rhs; rw [← List.map_id L]
      apply List.map_congr_left
      intro x hx
      have := h3 x hx
      simp
      omega
    · unfold strOfNums
      simp [ByteArray.size, h1]

set_option maxRecDepth 100000 in
set_option maxHeartbeats 2000000 in
theorem bPublicIs_any (a : Option Addr) (m cb : Nat) (L : List Nat) (E : Int) (a2 a3 a4 a5 a6 a7 : Option Addr) (n2 c2 n3 c3 n4 c4 n5 c5 n6 c6 n7 c7 : Nat) (w : World) (hs : SlB w a m cb L) (hm : m ≤ 240) (hE : -9223372036854775808 ≤ E ∧ E < 9223372036854775808) :
    Calls Tryz.prog 29 #[.agg #[.slice a m cb, .int .i64 E, .slice a2 n2 c2, .slice a3 n3 c3, .slice a4 n4 c4, .slice a5 n5 c5, .slice a6 n6 c6, .slice a7 n7 c7]] w fun e w' =>
      Says e (1 < bval L ∧ PubOk (bval L) E) ∧ Keeps [] w w' := by
  obtain ⟨C, hC⟩ : ∃ C, C = #[Value.slice a m cb, .int .i64 E, .slice a2 n2 c2, .slice a3 n3 c3, .slice a4 n4 c4, .slice a5 n5 c5, .slice a6 n6 c6, .slice a7 n7 c7] := ⟨_, rfl⟩
  have k1 : (w.alloc (.cells C 24)).cell? ⟨w.heap.size, 1, none⟩ = some (.int .i64 E) := by rw [alloc_cell, hC]; rfl
  have hk0 : Keeps [] w (w.alloc (.cells C 24)) := (Keeps.refl _ _).alloc _
  have hsz : w.heap.size < (w.alloc (.cells C 24)).heap.size := by simp
  obtain ⟨s, hcv, hsL, hsm⟩ := convert_bytes (hs.kept hk0)
  rw [hC] at k1 hk0 hsz hcv
  clear hC C
  have HK0 := Lib.hid hk0; have HSZ := Lib.hid hsz; have HS := Lib.hid hsL; have HSM := Lib.hid hsm; have K1 := Lib.hid k1
  clear hk0 hsz hsL hsm k1
  go_enter Tryz.func29, Tryz.ntmps29
  go_wp2_with fail
  refine (lOf_any s _ (by have := HSM.out; omega)).mono ?_
  rintro e w1 ⟨⟨a1, n1, c1, M, rfl, hN, hv, hB, _⟩, hk1⟩
  rw [HS.out] at hv
  have k2 := Keeps.cell K1.out hk1 HSZ.out (by simp)
  have hkk := HK0.out.trans1 hk1
  have HKK := Lib.hid hkk; have HN := Lib.hid hN; have HV := Lib.hid hv
  clear hk1 hkk hN hv
  go_wp2_with fail
  refine (bOdd_any a1 n1 c1 M _ HN.out).mono ?_
  rintro e w2 ⟨⟨r, rfl, hr⟩, rfl⟩
  rw [HV.out] at hr
  cases r
  · have hodd  := Lib.hid (show ¬ bval L % 2 = 1 from fun h => by simp [h] at hr)
    clear hr
    go_wp2_with fail
    go_ret
    exact ⟨Says.no (fun ⟨h1, h2⟩ => hodd.out h2.1), HKK.out⟩
  · have hodd  := Lib.hid (hr.1 rfl)
    clear hr
    go_wp2_with fail
    refine (lOne_any a1 n1 c1 M _ HN.out hB).mono ?_
    rintro e w2 ⟨⟨r2, rfl, hr2⟩, rfl⟩
    rw [HV.out] at hr2
    cases r2
    · have hone  := Lib.hid (show ¬ bval L = 1 from fun h => by simp [h] at hr2)
      clear hr2
      by_cases h2 : E > 2
      · by_cases h3 : E < 2147483648
        · have i0 : ¬ E < 0 := by omega
          by_cases h4 : E % 2 = 1
          · go_wp2_with fail
            go_ret
            exact ⟨Says.yes (by have := hodd.out; have := hone.out; exact ⟨by omega, hodd.out, h2, h3, h4⟩), HKK.out⟩
          · have i5 : (E % 2 == 1) = false := beq_false_of_ne h4
            go_wp2_with fail
            go_ret
            exact ⟨Says.no (fun ⟨h1, hh⟩ => h4 hh.2.2.2), HKK.out⟩
        · go_wp2_with fail
          go_ret
          exact ⟨Says.no (fun ⟨h1, hh⟩ => by have := hh.2.2.1; omega), HKK.out⟩
      · go_wp2_with fail
        go_ret
        exact ⟨Says.no (fun ⟨h1, hh⟩ => by have := hh.2.1; omega), HKK.out⟩
    · have hone  := Lib.hid (hr2.1 rfl)
      clear hr2
      go_wp2_with fail
      go_ret
      exact ⟨Says.no (fun ⟨h1, hh⟩ => by have := hone.out; omega), HKK.out⟩

theorem key8 {w' : World} {B : Nat} {E : Int} {a a2 a3 a4 a5 a6 a7 : Option Addr} {m cb n2 c2 n3 c3 n4 c4 n5 c5 n6 c6 n7 c7 : Nat} (h : w'.heap[B]? = some (.cells #[Value.slice a m cb, .int .i64 E, .slice a2 n2 c2, .slice a3 n3 c3, .slice a4 n4 c4, .slice a5 n5 c5, .slice a6 n6 c6, .slice a7 n7 c7] 24 (0, 0))) :
    w'.cell? ⟨B, 0, none⟩ = some (.slice a m cb) ∧ w'.cell? ⟨B, 1, none⟩ = some (.int .i64 E) ∧ w'.cell? ⟨B, 2, none⟩ = some (.slice a2 n2 c2) ∧ w'.cell? ⟨B, 3, none⟩ = some (.slice a3 n3 c3) ∧ w'.cell? ⟨B, 4, none⟩ = some (.slice a4 n4 c4) ∧ w'.cell? ⟨B, 5, none⟩ = some (.slice a5 n5 c5) ∧ w'.cell? ⟨B, 6, none⟩ = some (.slice a6 n6 c6) ∧ w'.cell? ⟨B, 7, none⟩ = some (.slice a7 n7 c7) := by
  refine ⟨?_, ?_, ?_, ?_, ?_, ?_, ?_, ?_⟩ <;> (rw [cell_of_row w' B _ _ _ _ h]; rfl)

end Go.Proofs.YtnfjmngchapdnaaGreatDoor

/- spec's numbers without their words: contracts of LOrder, LRest, LProduct, lTake, LBits, LPower, lOne, bOdd, LOf over values. -/
namespace Go.Proofs.YtnfjmngchapdnaaGreatDoor
open Go.RowKit

/-- A number of the reference: a slice of words, at most k, none of them 0 at the end, of value x. -/
def Num (k : Nat) (w : World) (a : Option Addr) (n c x : Nat) : Prop := ∃ L, N32 w a n c L ∧ Bare L ∧ val32 L = x ∧ n ≤ k
theorem Num.kept {k : Nat} {w w' : World} {a : Option Addr} {n c x : Nat} (h : Num k w a n c x) (hk : Keeps [] w w') : Num k w' a n c x := by
  obtain ⟨L, h1, h2, h3, h4⟩ := h
  exact ⟨L, h1.kept hk, h2, h3, h4⟩
theorem Num.le {k k' : Nat} {w : World} {a : Option Addr} {n c x : Nat} (h : Num k w a n c x) (hk : k ≤ k') : Num k' w a n c x := by
  obtain ⟨L, h1, h2, h3, h4⟩ := h
  exact ⟨L, h1, h2, h3, by omega⟩
/-- A number's words lie in no block that holds anything else. -/
theorem Num.keepsB {k : Nat} {w w' : World} {a : Option Addr} {n c x B : Nat} {C : Array Value} {t : TypeId} {z : Nat × Nat} (h : Num k w a n c x) (hk : Keeps [B] w w') (hb : w.heap[B]? = some (.cells C t z)) (hC : ∀ (j : Nat) (y : Int), C[j]? ≠ some (.int .u32 y)) : Num k w' a n c x := by
  obtain ⟨L, ⟨h1, h2, h3, h4⟩, h5, h6, h7⟩ := h
  refine ⟨L, ⟨h1, h2, h3, fun hL => ?_⟩, h5, h6, h7⟩
  obtain ⟨b, o, he, hb2, hB⟩ := h4 hL
  have hne : b ≠ B := by
    rintro rfl
    have hl : 0 < L.length := List.length_pos_iff.2 hL
    have h8 := hB 0 hl
    have h9 : w.cell? ⟨b, o + 0, none⟩ = C[o + 0]? := by simp [World.cell?, hb]
    rw [h9] at h8
    exact hC _ _ h8
  exact ⟨b, o, he, Nat.lt_of_lt_of_le hb2 hk.size, fun i hi => Keeps.cell1 (hB i hi) hk hb2 (by simpa using hne)⟩
theorem no_u32 (a0 a1 a2 a3 a4 a5 a6 : Option Addr) (n0 c0 n1 c1 n2 c2 n3 c3 n4 c4 n5 c5 n6 c6 : Nat) : ∀ (j : Nat) (y : Int), (#[.slice a0 n0 c0, .slice a1 n1 c1, .slice a2 n2 c2, .slice a3 n3 c3, .slice a4 n4 c4, .slice a5 n5 c5, .slice a6 n6 c6] : Array Value)[j]? ≠ some (.int .u32 y) := by
  intro j y h
  have h2 : j < 7 := (Array.getElem?_eq_some_iff.1 h).1
  obtain rfl | rfl | rfl | rfl | rfl | rfl | rfl : j = 0 ∨ j = 1 ∨ j = 2 ∨ j = 3 ∨ j = 4 ∨ j = 5 ∨ j = 6 := by omega
  all_goals simp at h
theorem num_lit (w : World) (v : Nat) (h0 : v ≠ 0) (hv : v < 4294967296) : Num 1 (w.alloc (.cells #[.int .u32 (v : Int)] 62)) (some ⟨w.heap.size, 0, none⟩) 1 1 v := by
  refine ⟨[v], ⟨rfl, Nat.le_refl _, fun x hx => by simp at hx; subst hx; rw [W32_eq]; exact hv, fun _ => ⟨w.heap.size, 0, rfl, by simp, fun i hi => ?_⟩⟩, ?_, by simp [val32], Nat.le_refl _⟩
  · have : i = 0 := by simp at hi; omega
    subst this
    rw [Nat.add_zero, alloc_cell]; rfl
  · intro k hk h
    have : k = 0 := by simp at hk; omega
    subst this
    simp at h
    exact h0 h
theorem Num.pos {k : Nat} {w : World} {a : Option Addr} {n c x : Nat} (h : Num k w a n c x) (hx : x ≠ 0) : n ≠ 0 := by
  obtain ⟨L, ⟨h1, _⟩, h5, h6, _⟩ := h
  rintro rfl
  have : L = [] := List.length_eq_zero_iff.1 h1
  subst this
  exact hx h6.symm
theorem Num.zero {k : Nat} {w : World} {a : Option Addr} {n c : Nat} (h : Num k w a n c 0) : n = 0 := by
  obtain ⟨L, ⟨h1, _⟩, h5, h6, _⟩ := h
  rcases Nat.eq_zero_or_pos n with h | h
  · exact h
  · have h7 := val32_bare_lt h5 (n - 1) (by omega)
    have h8 : 0 < W32 ^ (n - 1) := Nat.pow_pos (by rw [W32_eq]; omega)
    omega
theorem Num.blen {k : Nat} {w : World} {a : Option Addr} {n c x : Nat} (h : Num k w a n c x) : blen x ≤ 32 * k := by
  obtain ⟨L, ⟨h1, _, h3, _⟩, _, h6, h7⟩ := h
  refine blen_le_of_lt ?_
  rw [← h6]
  refine Nat.lt_of_lt_of_le (val32_lt h3) ?_
  rw [W32_pow]
  exact Nat.pow_le_pow_right (by omega) (by omega)
def RetN (e : Ending) (w' : World) (k x : Nat) : Prop := ∃ a n c, e = .returned (.slice a n c) ∧ Num k w' a n c x
theorem RetNum.toN {e : Ending} {w' : World} {k x : Nat} (h : RetNum e w' k x) : RetN e w' k x := by
  obtain ⟨a, n, c, M, rfl, h1, h2, h3, h4⟩ := h
  exact ⟨a, n, c, rfl, M, h1, h3, h2, h4⟩
section
variable {w : World} {k k2 : Nat} {a a2 : Option Addr} {n c n2 c2 x y : Nat}
theorem num_order (h : Num k w a n c x) (h2 : Num k2 w a2 n2 c2 y) (hk : k ≤ 400) (hk2 : k2 ≤ 400) :
    Calls Tryz.prog 19 #[.slice a n c, .slice a2 n2 c2] w fun e w' => (∃ o, e = .returned (.int .i64 o) ∧ OrdR x y o) ∧ Keeps [] w w' := by
  obtain ⟨A, hA, _, rfl, _⟩ := h
  obtain ⟨B, hB, _, rfl, _⟩ := h2
  exact lOrder_any a a2 n c n2 c2 A B w hA hB (by omega) (by omega)
theorem num_lt (h : Num k w a n c x) (h2 : Num k2 w a2 n2 c2 y) (hk : k ≤ 400) (hk2 : k2 ≤ 400) (hlt : x < y) :
    Calls Tryz.prog 19 #[.slice a n c, .slice a2 n2 c2] w fun e w' => e = .returned (.int .i64 (-1)) ∧ Keeps [] w w' :=
  (num_order h h2 hk hk2).mono (by
    rintro e w' ⟨⟨o, rfl, ho⟩, hk⟩
    rcases ho with ⟨_, rfl⟩ | ⟨h, _⟩ | ⟨h, _⟩
    · exact ⟨rfl, hk⟩
    · omega
    · omega)
theorem num_nlt (h : Num k w a n c x) (h2 : Num k2 w a2 n2 c2 y) (hk : k ≤ 400) (hk2 : k2 ≤ 400) (hlt : ¬ x < y) :
    Calls Tryz.prog 19 #[.slice a n c, .slice a2 n2 c2] w fun e w' => (∃ o : Int, e = .returned (.int .i64 o) ∧ (decide (o < 0) = false ∧ 0 ≤ o)) ∧ Keeps [] w w' :=
  (num_order h h2 hk hk2).mono (by
    rintro e w' ⟨⟨o, rfl, ho⟩, hk⟩
    rcases ho with ⟨h, _⟩ | ⟨h, rfl⟩ | ⟨h, rfl⟩
    · omega
    · exact ⟨⟨_, rfl, by decide, by omega⟩, hk⟩
    · exact ⟨⟨_, rfl, by decide, by omega⟩, hk⟩)
theorem num_eq (h : Num k w a n c x) (h2 : Num k2 w a2 n2 c2 y) (hk : k ≤ 400) (hk2 : k2 ≤ 400) (he : x = y) :
    Calls Tryz.prog 19 #[.slice a n c, .slice a2 n2 c2] w fun e w' => e = .returned (.int .i64 0) ∧ Keeps [] w w' :=
  (num_order h h2 hk hk2).mono (by
    rintro e w' ⟨⟨o, rfl, ho⟩, hk⟩
    rcases ho with ⟨h, _⟩ | ⟨_, rfl⟩ | ⟨h, _⟩
    · omega
    · exact ⟨rfl, hk⟩
    · omega)
theorem num_neq (h : Num k w a n c x) (h2 : Num k2 w a2 n2 c2 y) (hk : k ≤ 400) (hk2 : k2 ≤ 400) (he : ¬ x = y) :
    Calls Tryz.prog 19 #[.slice a n c, .slice a2 n2 c2] w fun e w' => (∃ o : Int, e = .returned (.int .i64 o) ∧ (o == 0) = false) ∧ Keeps [] w w' :=
  (num_order h h2 hk hk2).mono (by
    rintro e w' ⟨⟨o, rfl, ho⟩, hk⟩
    rcases ho with ⟨_, rfl⟩ | ⟨h, _⟩ | ⟨_, rfl⟩
    · exact ⟨⟨_, rfl, by decide⟩, hk⟩
    · omega
    · exact ⟨⟨_, rfl, by decide⟩, hk⟩)
theorem num_rest (h : Num k w a n c x) (h2 : Num k2 w a2 n2 c2 y) (hk : k ≤ 400) (hk2 : k2 ≤ 400) (hy : 0 < y) :
    Calls Tryz.prog 32 #[.slice a n c, .slice a2 n2 c2] w fun e w' => RetN e w' k2 (x % y) ∧ Keeps [] w w' := by
  obtain ⟨A, hA, _, rfl, _⟩ := h
  obtain ⟨B, hB, _, rfl, hn2⟩ := h2
  refine (lRest_any a a2 n c n2 c2 A B w hA hB (by omega) (by omega) hy).mono ?_
  rintro e w' ⟨⟨a', n', c', M, rfl, h1, h2, h3, h4⟩, hk⟩
  exact ⟨⟨a', n', c', rfl, M, h1, h3, h2, by omega⟩, hk⟩
theorem num_prod (h : Num k w a n c x) (h2 : Num k2 w a2 n2 c2 y) (hk : k ≤ 200) (hk2 : k2 ≤ 200) :
    Calls Tryz.prog 33 #[.slice a n c, .slice a2 n2 c2] w fun e w' => RetN e w' (k + k2 + 1) (x * y) ∧ Keeps [] w w' := by
  obtain ⟨A, hA, _, rfl, hn⟩ := h
  obtain ⟨B, hB, _, rfl, hn2⟩ := h2
  refine (lProduct_any a a2 n c n2 c2 A B w hA hB (by omega) (by omega)).mono ?_
  rintro e w' ⟨⟨a', n', c', M, rfl, h1, h2, h3, h4⟩, hk⟩
  exact ⟨⟨a', n', c', rfl, M, h1, h3, h2, by omega⟩, hk⟩
theorem num_take (h : Num k w a n c x) (h2 : Num k2 w a2 n2 c2 y) (hk : k ≤ 400) (hk2 : k2 ≤ 400) (hx : x ≠ 0) (hle : y ≤ x) :
    Calls Tryz.prog 31 #[.slice a n c, .slice a2 n2 c2] w fun e w' => RetN e w' k (x - y) ∧ Keeps [] w w' := by
  obtain ⟨A, hA, _, rfl, hn⟩ := h
  obtain ⟨B, hB, hb, rfl, hn2⟩ := h2
  refine (lTake_any a a2 n c n2 c2 A B w hA hB (by omega) (by omega) (by rintro rfl; exact hx rfl)).mono ?_
  rintro e w' ⟨⟨a', n', c', M, rfl, h1, h2, h3, h4⟩, hk⟩
  exact ⟨⟨a', n', c', rfl, M, h1, h2, h4 hb hle, by omega⟩, hk⟩
/-- Whatever it is: a number. -/
theorem num_takeW (h : Num k w a n c x) (h2 : Num k2 w a2 n2 c2 y) (hk : k ≤ 400) (hk2 : k2 ≤ 400) (hx : x ≠ 0) :
    Calls Tryz.prog 31 #[.slice a n c, .slice a2 n2 c2] w fun e w' => (∃ z, RetN e w' k z ∧ (y ≤ x → z = x - y)) ∧ Keeps [] w w' := by
  obtain ⟨A, hA, _, rfl, hn⟩ := h
  obtain ⟨B, hB, hb, rfl, hn2⟩ := h2
  refine (lTake_any a a2 n c n2 c2 A B w hA hB (by omega) (by omega) (by rintro rfl; exact hx rfl)).mono ?_
  rintro e w' ⟨⟨a', n', c', M, rfl, h1, h2, h3, h4⟩, hk⟩
  exact ⟨⟨val32 M, ⟨a', n', c', rfl, M, h1, h2, rfl, by omega⟩, h4 hb⟩, hk⟩
theorem num_bits (h : Num k w a n c x) (hk : k ≤ 400) :
    Calls Tryz.prog 15 #[.slice a n c] w fun e w' => e = .returned (.int .i64 (blen x : Int)) ∧ w = w' := by
  obtain ⟨A, hA, _, rfl, _⟩ := h
  exact lBits_any a n c A w hA (by omega)
theorem num_one (h : Num k w a n c x) (he : x = 1) :
    Calls Tryz.prog 34 #[.slice a n c] w fun e w' => e = .returned (.bool true) ∧ w = w' := by
  obtain ⟨A, hA, hb, rfl, _⟩ := h
  refine (lOne_any a n c A w hA hb).mono ?_
  rintro e w' ⟨⟨r, rfl, hr⟩, rfl⟩
  rw [hr.2 he]; exact ⟨rfl, rfl⟩
theorem num_none (h : Num k w a n c x) (he : ¬ x = 1) :
    Calls Tryz.prog 34 #[.slice a n c] w fun e w' => e = .returned (.bool false) ∧ w = w' := by
  obtain ⟨A, hA, hb, rfl, _⟩ := h
  refine (lOne_any a n c A w hA hb).mono ?_
  rintro e w' ⟨⟨r, rfl, hr⟩, rfl⟩
  cases r
  · exact ⟨rfl, rfl⟩
  · exact absurd (hr.1 rfl) he
theorem num_odd (h : Num k w a n c x) :
    Calls Tryz.prog 30 #[.slice a n c] w fun e w' => (∃ r, e = .returned (.bool r) ∧ (r = true ↔ x % 2 = 1)) ∧ w = w' := by
  obtain ⟨A, hA, hb, rfl, _⟩ := h
  exact bOdd_any a n c A w hA
theorem num_power {a3 : Option Addr} {n3 c3 k3 z : Nat} (h : Num k w a n c x) (h2 : Num k2 w a2 n2 c2 y) (h3 : Num k3 w a3 n3 c3 z) (hk : k ≤ 400) (hk2 : k2 ≤ 400) (hk3 : k3 ≤ 100) (hz : 1 < z) :
    Calls Tryz.prog 21 #[.slice a n c, .slice a2 n2 c2, .slice a3 n3 c3] w fun e w' => RetN e w' k3 (x ^ y % z) ∧ Keeps [] w w' := by
  obtain ⟨A, hA, _, rfl, _⟩ := h
  obtain ⟨B, hB, _, rfl, hn2⟩ := h2
  obtain ⟨D, hD, _, rfl, hn3⟩ := h3
  refine (lPower_any a a2 a3 n c n2 c2 n3 c3 A B D w hA hB hD (by omega) (by omega) (by omega) hz).mono ?_
  rintro e w' ⟨⟨a', n', c', M, rfl, h1, h2, h3, h4⟩, hk⟩
  exact ⟨⟨a', n', c', rfl, M, h1, h3, h2, by omega⟩, hk⟩
end
/-- The string of bytes. -/
def strB (L : List Nat) : ByteArray := ⟨(L.map UInt8.ofNat).toArray⟩
theorem strB_of {s : ByteArray} {L : List Nat} (h : bytesOf s = L) : s = strB L := by
  subst h
  unfold strB bytesOf
  rw [List.map_map]
  have e : (UInt8.ofNat ∘ UInt8.toNat) = id := by funext x; simp
  rw [e, List.map_id]
theorem convert_strB {w : World} {a : Option Addr} {m c : Nat} {L : List Nat} (h : SlB w a m c L) :
    (convert 22 9 (.slice a m c)).run Tryz.prog w = .ok (.string (strB L)) w := by
  obtain ⟨s, h1, h2, _⟩ := convert_bytes h
  rw [← strB_of h2]; exact h1
theorem strB_val {w : World} {a : Option Addr} {m c : Nat} {L : List Nat} (h : SlB w a m c L) : bytesOf (strB L) = L ∧ (strB L).size = m := by
  obtain ⟨s, _, h2, h3⟩ := convert_bytes h
  rw [← strB_of h2]; exact ⟨h2, h3⟩
theorem num_of {w w' : World} {a : Option Addr} {m c : Nat} {L : List Nat} (h : SlB w a m c L) (hm : m ≤ 250) :
    Calls Tryz.prog 16 #[.string (strB L)] w' fun e w2 => RetN e w2 63 (bval L) ∧ Keeps [] w' w2 := by
  obtain ⟨h1, h2⟩ := strB_val h
  refine (lOf_any (strB L) w' (by omega)).mono ?_
  rintro e w2 ⟨⟨a', n', c', M, rfl, h3, h4, h5, h6⟩, hk⟩
  exact ⟨⟨a', n', c', rfl, M, h3, h5, by rw [h4, h1], by omega⟩, hk⟩

end Go.Proofs.YtnfjmngchapdnaaGreatDoor
