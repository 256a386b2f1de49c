/- spec.BPublicIs. -/
import Derived.Test.YtnfjmngchapdnaaLOf
import Derived.Test.YtnfjmngchapdnaaPubOf
import Derived.Laws.BytesArg
namespace Go.Proofs.Ytnfjmngchapdnaa
open Go.RowKit

/-- The Bool that was returned says whether p. -/
def Says (e : Ending) (p : Prop) : Prop := ∃ b, e = .returned (.bool b) ∧ (b = true ↔ p)
theorem Says.no {p : Prop} (h : ¬ p) : Says (.returned (.bool false)) p := ⟨false, rfl, by simp [h]⟩
theorem Says.yes {p : Prop} (h : p) : Says (.returned (.bool true)) p := ⟨true, rfl, by simp [h]⟩
theorem und_string : Try.prog.underlying 9 = some .string := by kernel_rfl
theorem und_u8 : Try.prog.underlying 5 = some (.int .u8) := by kernel_rfl

theorem convert_bytes {w : World} {a : Option Addr} {m c : Nat} {L : List Nat} (h : SlB w a m c L) :
    ∃ s : ByteArray, (convert 22 9 (.slice a m c)).run Try.prog w = .ok (.string s) w ∧ bytesOf s = L ∧ s.size = m := by
  obtain ⟨h1, h2, h3, h4⟩ := h
  rcases List.eq_nil_or_concat L with hL | hL
  · subst hL
    have hm : m = 0 := by rw [← h1]; rfl
    subst hm
    rcases a with _ | ad
    · exact ⟨_, run_convert_bytes_nil w _ _ und_bytes und_u8 0 c _ und_string, rfl, rfl⟩
    · refine ⟨_, by rw [run_convert_bytes_string w _ _ _ (some ad) 0 c und_bytes und_u8 und_string, run_bytesToString w ad 0 c [] (by simp [loadCells, loadCellsFrom])], rfl, rfl⟩
  · have hne : L ≠ [] := by obtain ⟨_, _, h⟩ := hL; rw [h]; simp
    obtain ⟨b, o, rfl, hb, hB⟩ := h4 hne
    refine ⟨_, run_convert_bytes_arg w _ _ und_bytes und_u8 b o m c (L.map fun (x : Nat) => (x : Int)) (by simpa using h1) (fun i hi => ?_) _ und_string, ?_, ?_⟩
    · rw [hB i (by omega)]
      simp [List.getD, show i < L.length by omega]
    · unfold bytesOf strOfNums
      simp only [List.toList_toArray, List.map_map]
      conv => rhs; rw [← List.map_id L]
      apply List.map_congr_left
      intro x hx
      have := h3 x hx
      simp
      omega
    · unfold strOfNums
      simp [ByteArray.size, h1]

set_option maxRecDepth 100000 in
set_option maxHeartbeats 2000000 in
theorem bPublicIs_any (a : Option Addr) (m cb : Nat) (L : List Nat) (E : Int) (a2 a3 a4 a5 a6 a7 : Option Addr) (n2 c2 n3 c3 n4 c4 n5 c5 n6 c6 n7 c7 : Nat) (w : World) (hs : SlB w a m cb L) (hm : m ≤ 240) (hE : -9223372036854775808 ≤ E ∧ E < 9223372036854775808) :
    Calls Try.prog 9 #[.agg #[.slice a m cb, .int .i64 E, .slice a2 n2 c2, .slice a3 n3 c3, .slice a4 n4 c4, .slice a5 n5 c5, .slice a6 n6 c6, .slice a7 n7 c7]] w fun e w' =>
      Says e (1 < bval L ∧ PubOk (bval L) E) ∧ Keeps [] w w' := by
  obtain ⟨C, hC⟩ : ∃ C, C = #[Value.slice a m cb, .int .i64 E, .slice a2 n2 c2, .slice a3 n3 c3, .slice a4 n4 c4, .slice a5 n5 c5, .slice a6 n6 c6, .slice a7 n7 c7] := ⟨_, rfl⟩
  have k1 : (w.alloc (.cells C 24)).cell? ⟨w.heap.size, 1, none⟩ = some (.int .i64 E) := by rw [alloc_cell, hC]; rfl
  have hk0 : Keeps [] w (w.alloc (.cells C 24)) := (Keeps.refl _ _).alloc _
  have hsz : w.heap.size < (w.alloc (.cells C 24)).heap.size := by simp
  obtain ⟨s, hcv, hsL, hsm⟩ := convert_bytes (hs.kept hk0)
  rw [hC] at k1 hk0 hsz hcv
  clear hC C
  have HK0 := Lib.hid hk0; have HSZ := Lib.hid hsz; have HS := Lib.hid hsL; have HSM := Lib.hid hsm; have K1 := Lib.hid k1
  clear hk0 hsz hsL hsm k1
  go_enter Try.func9, Try.ntmps9
  go_wp2_with fail
  refine (lOf_any s _ (by have := HSM.out; omega)).mono ?_
  rintro e w1 ⟨⟨a1, n1, c1, M, rfl, hN, hv, hB, _⟩, hk1⟩
  rw [HS.out] at hv
  have k2 := Keeps.cell K1.out hk1 HSZ.out (by simp)
  have hkk := HK0.out.trans1 hk1
  have HKK := Lib.hid hkk; have HN := Lib.hid hN; have HV := Lib.hid hv
  clear hk1 hkk hN hv
  go_wp2_with fail
  refine (bOdd_any a1 n1 c1 M _ HN.out).mono ?_
  rintro e w2 ⟨⟨r, rfl, hr⟩, rfl⟩
  rw [HV.out] at hr
  cases r
  · have hodd  := Lib.hid (show ¬ bval L % 2 = 1 from fun h => by simp [h] at hr)
    clear hr
    go_wp2_with fail
    go_ret
    exact ⟨Says.no (fun ⟨h1, h2⟩ => hodd.out h2.1), HKK.out⟩
  · have hodd  := Lib.hid (hr.1 rfl)
    clear hr
    go_wp2_with fail
    refine (lOne_any a1 n1 c1 M _ HN.out hB).mono ?_
    rintro e w2 ⟨⟨r2, rfl, hr2⟩, rfl⟩
    rw [HV.out] at hr2
    cases r2
    · have hone  := Lib.hid (show ¬ bval L = 1 from fun h => by simp [h] at hr2)
      clear hr2
      by_cases h2 : E > 2
      · by_cases h3 : E < 2147483648
        · have i0 : ¬ E < 0 := by omega
          by_cases h4 : E % 2 = 1
          · go_wp2_with fail
            go_ret
            exact ⟨Says.yes (by have := hodd.out; have := hone.out; exact ⟨by omega, hodd.out, h2, h3, h4⟩), HKK.out⟩
          · have i5 : (E % 2 == 1) = false := beq_false_of_ne h4
            go_wp2_with fail
            go_ret
            exact ⟨Says.no (fun ⟨h1, hh⟩ => h4 hh.2.2.2), HKK.out⟩
        · go_wp2_with fail
          go_ret
          exact ⟨Says.no (fun ⟨h1, hh⟩ => by have := hh.2.2.1; omega), HKK.out⟩
      · go_wp2_with fail
        go_ret
        exact ⟨Says.no (fun ⟨h1, hh⟩ => by have := hh.2.1; omega), HKK.out⟩
    · have hone  := Lib.hid (hr2.1 rfl)
      clear hr2
      go_wp2_with fail
      go_ret
      exact ⟨Says.no (fun ⟨h1, hh⟩ => by have := hone.out; omega), HKK.out⟩

end Go.Proofs.Ytnfjmngchapdnaa
