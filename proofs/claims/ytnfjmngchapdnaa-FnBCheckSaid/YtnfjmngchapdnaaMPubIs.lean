import Derived.Test.YtnfjmngchapdnaaMSpec1
import Derived.Test.YtnfjmngchapdnaaMRsaPub
import Derived.Laws.BytesArg
/- spec.BPublicIs. -/
namespace Go.Proofs.Ytnfjmngchapdnaa
open Go.RowKit

/-- The Bool that was returned says whether p. -/
def Says (e : Ending) (p : Prop) : Prop := ∃ b, e = .returned (.bool b) ∧ (b = true ↔ p)
theorem Says.no {p : Prop} (h : ¬ p) : Says (.returned (.bool false)) p := ⟨false, rfl, by simp [h]⟩
theorem Says.yes {p : Prop} (h : p) : Says (.returned (.bool true)) p := ⟨true, rfl, by simp [h]⟩
theorem und_string : Try.prog.underlying 9 = some .string := by kernel_rfl
theorem und_u8 : Try.prog.underlying 5 = some (.int .u8) := by kernel_rfl

theorem convert_bytes {w : World} {a : Option Addr} {m c : Nat} {L : List Nat} (h : SlB w a m c L) :
    ∃ s : ByteArray, (convert 22 9 (.slice a m c)).run Try.prog w = .ok (.string s) w ∧ bytesOf s = L ∧ s.size = m := by
  obtain ⟨h1, h2, h3, h4⟩ := h
  rcases List.eq_nil_or_concat L with hL | hL
  · subst hL
    have hm : m = 0 := by rw [← h1]; rfl
    subst hm
    rcases a with _ | ad
    · exact ⟨_, run_convert_bytes_nil w _ _ und_bytes und_u8 0 c _ und_string, rfl, rfl⟩
    · refine ⟨_, by rw [run_convert_bytes_string w _ _ _ (some ad) 0 c und_bytes und_u8 und_string, run_bytesToString w ad 0 c [] (by simp [loadCells, loadCellsFrom])], rfl, rfl⟩
  · have hne : L ≠ [] := by obtain ⟨_, _, h⟩ := hL; rw [h]; simp
    obtain ⟨b, o, rfl, hb, hB⟩ := h4 hne
    refine ⟨_, run_convert_bytes_arg w _ _ und_bytes und_u8 b o m c (L.map fun (x : Nat) => (x : Int)) (by simpa using h1) (fun i hi => ?_) _ und_string, ?_, ?_⟩
    · rw [hB i (by omega)]
      simp [List.getD, show i < L.length by omega]
    · unfold bytesOf strOfNums
      simp only [List.toList_toArray, List.map_map]
      conv => rhs; rw [← List.map_id L]
      apply List.map_congr_left
      intro x hx
      have := h3 x hx
      simp
      omega
    · unfold strOfNums
      simp [ByteArray.size, h1]

set_option maxRecDepth 100000 in
set_option maxHeartbeats 2000000 in
theorem bPublicIs_any (a : Option Addr) (m cb : Nat) (L : List Nat) (E : Int) (a2 a3 a4 a5 a6 a7 : Option Addr) (n2 c2 n3 c3 n4 c4 n5 c5 n6 c6 n7 c7 : Nat) (w : World) (hs : SlB w a m cb L) (hm : m ≤ 240) (hE : -9223372036854775808 ≤ E ∧ E < 9223372036854775808) :
    Calls Try.prog 9 #[.agg #[.slice a m cb, .int .i64 E, .slice a2 n2 c2, .slice a3 n3 c3, .slice a4 n4 c4, .slice a5 n5 c5, .slice a6 n6 c6, .slice a7 n7 c7]] w fun e w' =>
      Says e (1 < bval L ∧ PubOk (bval L) E) ∧ Keeps [] w w' := by
  obtain ⟨C, hC⟩ : ∃ C, C = #[Value.slice a m cb, .int .i64 E, .slice a2 n2 c2, .slice a3 n3 c3, .slice a4 n4 c4, .slice a5 n5 c5, .slice a6 n6 c6, .slice a7 n7 c7] := ⟨_, rfl⟩
  have k1 : (w.alloc (.cells C 24)).cell? ⟨w.heap.size, 1, none⟩ = some (.int .i64 E) := by rw [alloc_cell, hC]; rfl
  have hk0 : Keeps [] w (w.alloc (.cells C 24)) := (Keeps.refl _ _).alloc _
  have hsz : w.heap.size < (w.alloc (.cells C 24)).heap.size := by simp
  obtain ⟨s, hcv, hsL, hsm⟩ := convert_bytes (hs.kept hk0)
  rw [hC] at k1 hk0 hsz hcv
  clear hC C
  have HK0 := Lib.hid hk0; have HSZ := Lib.hid hsz; have HS := Lib.hid hsL; have HSM := Lib.hid hsm; have K1 := Lib.hid k1
  clear hk0 hsz hsL hsm k1
  go_enter Try.func9, Try.ntmps9
  go_wp2_with fail
  refine (lOf_any s _ (by have := HSM.out; omega)).mono ?_
  rintro e w1 ⟨⟨a1, n1, c1, M, rfl, hN, hv, hB, _⟩, hk1⟩
  rw [HS.out] at hv
  have k2 := Keeps.cell K1.out hk1 HSZ.out (by simp)
  have hkk := HK0.out.trans1 hk1
  have HKK := Lib.hid hkk; have HN := Lib.hid hN; have HV := Lib.hid hv
  clear hk1 hkk hN hv
  go_wp2_with fail
  refine (bOdd_any a1 n1 c1 M _ HN.out).mono ?_
  rintro e w2 ⟨⟨r, rfl, hr⟩, rfl⟩
  rw [HV.out] at hr
  cases r
  · have hodd  := Lib.hid (show ¬ bval L % 2 = 1 from fun h => by simp [h] at hr)
    clear hr
    go_wp2_with fail
    go_ret
    exact ⟨Says.no (fun ⟨h1, h2⟩ => hodd.out h2.1), HKK.out⟩
  · have hodd  := Lib.hid (hr.1 rfl)
    clear hr
    go_wp2_with fail
    refine (lOne_any a1 n1 c1 M _ HN.out hB).mono ?_
    rintro e w2 ⟨⟨r2, rfl, hr2⟩, rfl⟩
    rw [HV.out] at hr2
    cases r2
    · have hone  := Lib.hid (show ¬ bval L = 1 from fun h => by simp [h] at hr2)
      clear hr2
      by_cases h2 : E > 2
      · by_cases h3 : E < 2147483648
        · have i0 : ¬ E < 0 := by omega
          by_cases h4 : E % 2 = 1
          · go_wp2_with fail
            go_ret
            exact ⟨Says.yes (by have := hodd.out; have := hone.out; exact ⟨by omega, hodd.out, h2, h3, h4⟩), HKK.out⟩
          · have i5 : (E % 2 == 1) = false := beq_false_of_ne h4
            go_wp2_with fail
            go_ret
            exact ⟨Says.no (fun ⟨h1, hh⟩ => h4 hh.2.2.2), HKK.out⟩
        · go_wp2_with fail
          go_ret
          exact ⟨Says.no (fun ⟨h1, hh⟩ => by have := hh.2.2.1; omega), HKK.out⟩
      · go_wp2_with fail
        go_ret
        exact ⟨Says.no (fun ⟨h1, hh⟩ => by have := hh.2.1; omega), HKK.out⟩
    · have hone  := Lib.hid (hr2.1 rfl)
      clear hr2
      go_wp2_with fail
      go_ret
      exact ⟨Says.no (fun ⟨h1, hh⟩ => by have := hone.out; omega), HKK.out⟩

theorem key8 {w' : World} {B : Nat} {E : Int} {a a2 a3 a4 a5 a6 a7 : Option Addr} {m cb n2 c2 n3 c3 n4 c4 n5 c5 n6 c6 n7 c7 : Nat} (h : w'.heap[B]? = some (.cells #[Value.slice a m cb, .int .i64 E, .slice a2 n2 c2, .slice a3 n3 c3, .slice a4 n4 c4, .slice a5 n5 c5, .slice a6 n6 c6, .slice a7 n7 c7] 24 (0, 0))) :
    w'.cell? ⟨B, 0, none⟩ = some (.slice a m cb) ∧ w'.cell? ⟨B, 1, none⟩ = some (.int .i64 E) ∧ w'.cell? ⟨B, 2, none⟩ = some (.slice a2 n2 c2) ∧ w'.cell? ⟨B, 3, none⟩ = some (.slice a3 n3 c3) ∧ w'.cell? ⟨B, 4, none⟩ = some (.slice a4 n4 c4) ∧ w'.cell? ⟨B, 5, none⟩ = some (.slice a5 n5 c5) ∧ w'.cell? ⟨B, 6, none⟩ = some (.slice a6 n6 c6) ∧ w'.cell? ⟨B, 7, none⟩ = some (.slice a7 n7 c7) := by
  refine ⟨?_, ?_, ?_, ?_, ?_, ?_, ?_, ?_⟩ <;> (rw [cell_of_row w' B _ _ _ _ h]; rfl)

end Go.Proofs.Ytnfjmngchapdnaa

/- laws: zzFits4, bTidy, bAwake. -/
namespace Go.Proofs.Ytnfjmngchapdnaa
open Go.RowKit

set_option maxRecDepth 100000 in
set_option maxHeartbeats 2000000 in
theorem zzFits4_any (E : Int) (a a2 a3 a4 a5 a6 a7 : Option Addr) (m cb n2 c2 n3 c3 n4 c4 n5 c5 n6 c6 n7 c7 : Nat) (w : World) :
    Calls Try.prog 5 #[.agg #[.slice a m cb, .int .i64 E, .slice a2 n2 c2, .slice a3 n3 c3, .slice a4 n4 c4, .slice a5 n5 c5, .slice a6 n6 c6, .slice a7 n7 c7]] w fun e w' =>
      (∃ v, e = .returned v ∧ ∃ b, v = .bool b) ∧ Keeps [] w w' := by
  have hk0 : Keeps [] w (w.alloc (.cells #[Value.slice a m cb, .int .i64 E, .slice a2 n2 c2, .slice a3 n3 c3, .slice a4 n4 c4, .slice a5 n5 c5, .slice a6 n6 c6, .slice a7 n7 c7] 24)) := (Keeps.refl _ _).alloc _
  have HK := Lib.hid hk0
  clear hk0
  go_enter Try.func5, Try.ntmps5
  go_wp2
  all_goals (go_ret; exact ⟨⟨_, rfl, _, rfl⟩, HK.out⟩)

def Tidy (L : List Nat) : Prop := L.length ≤ 240 ∧ L.head? ≠ some 0

set_option maxRecDepth 100000 in
set_option maxHeartbeats 2000000 in
theorem bTidy_any (b k c : Nat) (A : Nat → Option Addr) (N C : Nat → Nat) (LL : Nat → List Nat) (w : World) (hk : k ≤ 1000)
    (hc : ∀ i, i < k → w.cell? ⟨b, i, none⟩ = some (.slice (A i) (N i) (C i))) (hs : ∀ i, i < k → SlB w (A i) (N i) (C i) (LL i)) :
    Calls Try.prog 6 #[.slice (some ⟨b, 0, none⟩) k c] w fun e w' =>
      Says e (∀ i, i < k → Tidy (LL i)) ∧ w' = w := by
  have HC := Lib.hid hc; have HS := Lib.hid hs
  clear hc hs
  go_enter Try.func6, Try.ntmps6
  go_wp2
  go_loopw [3] (fun ii wr => ∃ i : Nat, ii = .int .i64 (i : Int) ∧ i ≤ k ∧ Hid (∀ j, j < i → Tidy (LL j)) ∧ Hid (wr = w)) (fun ii _ => k - (intOf ii).toNat)
  case atStart => exact ⟨0, by go_num, by omega, Lib.hid (fun j h => by omega), Lib.hid rfl⟩
  case round =>
    obtain ⟨i, rfl, hi, HT, hw⟩ := hrel
    have hw' := hw.out
    subst hw'
    by_cases hlt : i < k
    · have i1 : (i : Int) < (k : Int) := by omega
      have cc := HC.out i hlt
      obtain ⟨g1, g2, g3, g4⟩ := HS.out i hlt
      obtain ⟨a, ha⟩ : ∃ a, a = A i := ⟨_, rfl⟩
      obtain ⟨m, hm⟩ : ∃ m, m = N i := ⟨_, rfl⟩
      obtain ⟨c', hc'⟩ : ∃ c', c' = C i := ⟨_, rfl⟩
      obtain ⟨L, hL⟩ : ∃ L, L = LL i := ⟨_, rfl⟩
      rw [← ha, ← hm, ← hc'] at cc
      rw [← hm] at g1 g2
      rw [← hL] at g1 g3 g4
      rw [← ha] at g4
      rw [← hc'] at g2
      have HL := Lib.hid hL
      clear ha hm hc' hL
      rcases L with _ | ⟨x, L⟩
      · have hm0 : m = 0 := by rw [← g1]; rfl
        subst hm0
        clear g4
        go_wp2
        refine ⟨⟨i + 1, by go_num, by omega, Lib.hid (fun j hj => ?_), Lib.hid trivial⟩, by simp [intOf]; omega⟩
        rcases Nat.lt_or_ge j i with h | h
        · exact HT.out j h
        · have : j = i := by omega
          subst this
          rw [← HL.out]
          exact ⟨by simp, by simp⟩
      · obtain ⟨bb, o, rfl, hbb, hB⟩ := g4 (by simp)
        have cx := hB 0 (by simp)
        simp only [List.getElem_cons_zero, Nat.add_zero] at cx
        have i2 : (0 : Int) < (m : Int) := by simp at g1; omega
        clear hB g4
        by_cases h240 : m ≤ 240
        · have i3 : ¬ (m : Int) > 240 := by omega
          by_cases hx : (x : Int) = 0
          · go_wp2
            go_ret
            refine ⟨Says.no (fun h => ?_), rfl⟩
            have h1 := h i hlt
            rw [← HL.out] at h1
            exact h1.2 (by simp; omega)
          · have i5 : ((x : Int) == 0) = false := beq_false_of_ne hx
            go_wp2
            refine ⟨⟨i + 1, by go_num, by omega, Lib.hid (fun j hj => ?_), Lib.hid trivial⟩, by simp [intOf]; omega⟩
            rcases Nat.lt_or_ge j i with h | h
            · exact HT.out j h
            · have : j = i := by omega
              subst this
              rw [← HL.out]
              exact ⟨by omega, by simp; omega⟩
        · have i3 : (m : Int) > 240 := by omega
          go_wp2
          go_ret
          refine ⟨Says.no (fun h => ?_), rfl⟩
          have h1 := h i hlt
          rw [← HL.out] at h1
          have := h1.1; omega
    · have hik : i = k := by omega
      subst hik
      have i1 : ¬ (i : Int) < (i : Int) := by omega
      go_wp2
      go_ret
      exact ⟨Says.yes HT.out, rfl⟩

end Go.Proofs.Ytnfjmngchapdnaa

/- laws: bAwake, FnBPublic. -/
namespace Go.Proofs.Ytnfjmngchapdnaa
open Go.RowKit

theorem pubOk15 : 1 < bval [15] ∧ PubOk (bval [15]) 3 := by
  have : bval [15] = 15 := rfl
  rw [this]
  exact ⟨by omega, by unfold PubOk; omega⟩

set_option maxRecDepth 100000 in
set_option maxHeartbeats 2000000 in
theorem bAwake_any (w : World) :
    Calls Try.prog 7 #[] w fun e w' => e = .returned (.bool true) ∧ Keeps [] w w' := by
  have hk0 : Keeps [] w (w.alloc (.cells #[.int .u8 15] 5)) := (Keeps.refl _ _).alloc _
  have hs : SlB (w.alloc (.cells #[.int .u8 15] 5)) (some ⟨w.heap.size, 0, none⟩) 1 1 [15] := by
    refine ⟨rfl, Nat.le_refl _, fun x hx => by simp at hx; omega, fun _ => ⟨_, _, rfl, by simp, fun i hi => ?_⟩⟩
    have : i = 0 := by simp at hi; omega
    subst this
    rw [Nat.add_zero, alloc_cell]; rfl
  have HK := Lib.hid hk0; have HS := Lib.hid hs
  clear hk0 hs
  go_enter Try.func7, Try.ntmps7
  go_wp2_with fail
  refine (bPublic_any (some ⟨w.heap.size, 0, none⟩) 1 1 [15] 3 none none none none none none 0 0 0 0 0 0 0 0 0 0 0 0 _ HS.out (by omega) (by omega)).mono ?_
  rintro e w1 ⟨⟨b, rfl, hb⟩, hk1⟩
  have hb' := hb.2 pubOk15
  subst hb'
  clear hb
  go_wp2
  go_ret
  exact ⟨rfl, HK.out.trans1 hk1⟩

set_option maxRecDepth 100000 in
set_option maxHeartbeats 4000000 in
theorem fnBPublic_any (a : Option Addr) (m cb : Nat) (L : List Nat) (E : Int) (a2 a3 a4 a5 a6 a7 : Option Addr) (n2 c2 n3 c3 n4 c4 n5 c5 n6 c6 n7 c7 : Nat) (w : World) (hs : SlB w a m cb L) (hE : -9223372036854775808 ≤ E ∧ E < 9223372036854775808) :
    Calls Try.prog 3 #[.agg #[.slice a m cb, .int .i64 E, .slice a2 n2 c2, .slice a3 n3 c3, .slice a4 n4 c4, .slice a5 n5 c5, .slice a6 n6 c6, .slice a7 n7 c7]] w fun e w' => e = .returned (.bool true) ∧ Keeps [] w w' := by
  obtain ⟨B, hBB⟩ : ∃ B, B = w.heap.size := ⟨_, rfl⟩
  have hb0 : (w.alloc (.cells #[Value.slice a m cb, .int .i64 E, .slice a2 n2 c2, .slice a3 n3 c3, .slice a4 n4 c4, .slice a5 n5 c5, .slice a6 n6 c6, .slice a7 n7 c7] 24)).heap[w.heap.size]? = some (.cells #[Value.slice a m cb, .int .i64 E, .slice a2 n2 c2, .slice a3 n3 c3, .slice a4 n4 c4, .slice a5 n5 c5, .slice a6 n6 c6, .slice a7 n7 c7] 24 (0, 0)) := by
    show (w.heap.push _)[w.heap.size]? = _
    rw [Array.getElem?_push, if_pos rfl]
  have hk0 : Keeps [] w (w.alloc (.cells #[Value.slice a m cb, .int .i64 E, .slice a2 n2 c2, .slice a3 n3 c3, .slice a4 n4 c4, .slice a5 n5 c5, .slice a6 n6 c6, .slice a7 n7 c7] 24)) := (Keeps.refl _ _).alloc _
  have HK := Lib.hid hk0; have HB := Lib.hid hb0
  clear hk0 hb0
  go_enter Try.func3, Try.ntmps3
  go_wp2_with fail
  refine (zzFits4_any E a a2 a3 a4 a5 a6 a7 m cb n2 c2 n3 c3 n4 c4 n5 c5 n6 c6 n7 c7 _).mono ?_
  rintro e w1 ⟨⟨v, rfl, r, rfl⟩, hk1⟩
  have hb1 := blk_keeps HB.out hk1 (by simp)
  have hk := HK.out.trans1 hk1
  obtain ⟨k0, k1, k2, k3, k4, k5, k6, k7⟩ := key8 hb1
  have HB1 := Lib.hid hb1; have HK1 := Lib.hid hk
  clear hb1 hk hk1
  cases r
  · go_wp2
    go_ret
    exact ⟨rfl, HK1.out⟩
  · have hkt : Keeps [] w1 (w1.alloc (.cells #[.slice a m cb] 22)) := (Keeps.refl _ _).alloc _
    have hct : ∀ i, i < 1 → (w1.alloc (.cells #[.slice a m cb] 22)).cell? ⟨w1.heap.size, i, none⟩ = some (.slice ((fun _ => a) i) ((fun _ => m) i) ((fun _ => cb) i)) := by
      intro i hi
      have : i = 0 := by omega
      subst this
      rw [alloc_cell]; rfl
    have hst := (hs.kept HK1.out).kept hkt
    have hb2 := blk_keeps HB1.out hkt (by simp)
    have hk2 := HK1.out.trans1 hkt
    have HT := Lib.hid hkt; have HC := Lib.hid hct; have HST := Lib.hid hst; have HB2 := Lib.hid hb2; have HK2 := Lib.hid hk2
    clear hkt hct hst hb2 hk2
    go_wp2_with fail
    refine (bTidy_any w1.heap.size 1 1 (fun _ => a) (fun _ => m) (fun _ => cb) (fun _ => L) _ (by omega) HC.out (fun _ _ => HST.out)).mono ?_
    rintro e w2 ⟨⟨r, rfl, hr⟩, rfl⟩
    cases r
    · clear hr
      go_wp2_with fail
      refine (bAwake_any _).mono ?_
      rintro e w3 ⟨rfl, hk3⟩
      go_wp2
      go_ret
      exact ⟨rfl, HK2.out.trans1 hk3⟩
    · have ht := hr.1 rfl 0 (by omega)
      have hm : m ≤ 240 := by have := ht.1; have := hs.1; omega
      clear hr ht
      obtain ⟨w2, hw2⟩ : ∃ w2, w2 = w1.alloc (.cells #[.slice a m cb] 22) := ⟨_, rfl⟩
      rw [← hw2] at HST HB2 HK2 ⊢
      clear hw2 HT HC k0 k1 k2 k3 k4 k5 k6 k7
      have S0 := key8 HB2.out
      go_wp2_with fail
      refine wp_region_txt [1,2,0,2,0,0,2,0,0] (fun w' => w'.cell? ⟨w.heap.size, 0, none⟩ = some (.slice a m cb) ∧ w'.cell? ⟨w.heap.size, 1, none⟩ = some (.int .i64 E) ∧ w'.cell? ⟨w.heap.size, 2, none⟩ = some (.slice a2 n2 c2) ∧ w'.cell? ⟨w.heap.size, 3, none⟩ = some (.slice a3 n3 c3) ∧ w'.cell? ⟨w.heap.size, 4, none⟩ = some (.slice a4 n4 c4) ∧ w'.cell? ⟨w.heap.size, 5, none⟩ = some (.slice a5 n5 c5) ∧ w'.cell? ⟨w.heap.size, 6, none⟩ = some (.slice a6 n6 c6) ∧ w'.cell? ⟨w.heap.size, 7, none⟩ = some (.slice a7 n7 c7)) (by kernel_rfl) (by kernel_rfl) S0 ?_
      obtain ⟨k0, k1, k2, k3, k4, k5, k6, k7⟩ := S0
      simp only [withMarks]
      repeat (first
        | ((with_reducible refine txt_v (v := ?_) ?_ ?_); (any_goals ((with_reducible refine Yl.mk ?_ ?_); rfl; intro w hSw; (go_simp <;> (try go_bits) <;> (repeat (first | rw [if_pos (by omega)] | rw [if_neg (by omega)])) <;> with_reducible rfl))); try simp only [Act.put, List.setIfInBounds_toArray, List.set_cons_zero, List.set_cons_succ])
        | ((with_reducible refine txt_u ?_ ?_); rfl; try simp only [Act.put, List.setIfInBounds_toArray, List.set_cons_zero, List.set_cons_succ])
        | ((with_reducible refine txt_l (v := ?_) ?_ ?_); (any_goals ((with_reducible refine Reads.mk ?_ ?_); rfl; (go_simp <;> (try go_bits) <;> (repeat (first | rw [if_pos (by omega)] | rw [if_neg (by omega)])) <;> with_reducible rfl))); try simp only [Act.put, List.setIfInBounds_toArray, List.set_cons_zero, List.set_cons_succ])
        | ((with_reducible refine txt_e ?_ ?_); rfl; intro K hK; go_simp; (first | (refine hK _ _ (by first | exact key8 (blk_keeps HB2.out (((Keeps.refl [] w2).drew.trans1 hk3).trans1 hk4 |>.trans1 hk5) (by simp)) | exact key8 (blk_keeps HB2.out (((Keeps.refl [] w2).drew.trans1 hk3).trans1 hk4) (by simp)) | exact key8 (blk_keeps HB2.out ((Keeps.refl [] w2).drew.trans1 hk3) (by simp))) ?_) | ((first | (go_at_call 7; refine (bAwake_any _).mono ?_; rintro e w5 ⟨rfl, hk5⟩) | (go_at_call 9; refine (bPublicIs_any a m cb L E a2 a3 a4 a5 a6 a7 n2 c2 n3 c3 n4 c4 n5 c5 n6 c6 n7 c7 _ (HST.out.kept ((Keeps.refl [] w2).drew.trans1 hk3)) hm hE).mono ?_; rintro e w4 ⟨⟨r4, rfl, hr4⟩, hk4⟩; have hrr : r3 = r4 := Bool.eq_iff_iff.2 (hr3.out.trans hr4.symm); subst hrr) | (go_at_call 8; refine (bPublic_any a m cb L E a2 a3 a4 a5 a6 a7 n2 c2 n3 c3 n4 c4 n5 c5 n6 c6 n7 c7 _ (HST.out.kept (Keeps.refl [] w2).drew) hm hE).mono ?_; rintro e w3 ⟨⟨r3, rfl, hr3⟩, hk3⟩; have hr3 := Lib.hid hr3)); dsimp only; refine hK _ _ (by first | exact key8 (blk_keeps HB2.out (((Keeps.refl [] w2).drew.trans1 hk3).trans1 hk4 |>.trans1 hk5) (by simp)) | exact key8 (blk_keeps HB2.out (((Keeps.refl [] w2).drew.trans1 hk3).trans1 hk4) (by simp)) | exact key8 (blk_keeps HB2.out ((Keeps.refl [] w2).drew.trans1 hk3) (by simp))) ?_)); clear hK K; try simp only [Act.put, List.setIfInBounds_toArray, List.set_cons_zero, List.set_cons_succ]))
      refine txt_nil ?_
      go_wp2
      go_ret
      exact ⟨rfl, ((HK2.out.drew.trans1 hk3).trans1 hk4).trans1 hk5⟩

end Go.Proofs.Ytnfjmngchapdnaa
