import Derived.Test.YtnfjmngchapdnaaDoorMRowM
import Derived.Test.YtnfjmngchapdnaaDoorMTxt
import Derived.Deep.LoopGhost
import Derived.WalkSpells
/- spec.BSealed. -/
namespace Go.Proofs.YtnfjmngchapdnaaDoor
open Go.RowKit

/-- What is sealed by the law's words: S bytes, or none. -/
def SealR (e : Ending) (N : Nat) (E : Int) (S ml nR : Nat) (M : List Nat) (tot : Option (List Nat × List Nat)) : Prop :=
  ((1 < N ∧ PubOk N E) ∧ 1024 ≤ blen N ∧ ml + 11 ≤ S ∧ S - ml - 3 ≤ nR ∧ ∃ P T, tot = some (P, T) ∧ RetText e S (bval ([0, 2] ++ P ++ [0] ++ M) ^ E.toNat % N)) ∨
    ((¬ (1 < N ∧ PubOk N E) ∨ blen N < 1024 ∨ S < ml + 11 ∨ nR < S - ml - 3 ∨ tot = none) ∧ ∃ s : ByteArray, e = .returned (.tuple #[.string s, .bool false]))

set_option maxRecDepth 100000 in
set_option maxHeartbeats 4000000 in
theorem bSealed_any (a : Option Addr) (m cb : Nat) (L : List Nat) (E : Int) (a2 a3 a4 a5 a6 a7 : Option Addr) (n2 c2 n3 c3 n4 c4 n5 c5 n6 c6 n7 c7 : Nat) (rs ts : ByteArray) (w : World) (hs : SlB w a m cb L) (hm : m ≤ 240) (hE : -9223372036854775808 ≤ E ∧ E < 9223372036854775808) (hrs : rs.size ≤ 300) (hts : ts.size ≤ 300) :
    Calls Tryd.prog 9 #[.agg #[.slice a m cb, .int .i64 E, .slice a2 n2 c2, .slice a3 n3 c3, .slice a4 n4 c4, .slice a5 n5 c5, .slice a6 n6 c6, .slice a7 n7 c7], .string rs, .string ts] w fun e w' =>
      SealR e (bval L) E ((blen (bval L) + 7) / 8) ts.size rs.size (bytesOf ts) (fixAll ((bytesOf rs).take ((blen (bval L) + 7) / 8 - ts.size - 3)) ((bytesOf rs).drop ((blen (bval L) + 7) / 8 - ts.size - 3))) ∧ Keeps [] w w' := by
  have hb0 : (w.alloc (.cells #[Value.slice a m cb, .int .i64 E, .slice a2 n2 c2, .slice a3 n3 c3, .slice a4 n4 c4, .slice a5 n5 c5, .slice a6 n6 c6, .slice a7 n7 c7] 24)).heap[w.heap.size]? = some (.cells #[Value.slice a m cb, .int .i64 E, .slice a2 n2 c2, .slice a3 n3 c3, .slice a4 n4 c4, .slice a5 n5 c5, .slice a6 n6 c6, .slice a7 n7 c7] 24 (0, 0)) := by
    show (w.heap.push _)[w.heap.size]? = _
    rw [Array.getElem?_push, if_pos rfl]
  have hk0 : Keeps [] w (w.alloc (.cells #[Value.slice a m cb, .int .i64 E, .slice a2 n2 c2, .slice a3 n3 c3, .slice a4 n4 c4, .slice a5 n5 c5, .slice a6 n6 c6, .slice a7 n7 c7] 24)) := (Keeps.refl _ _).alloc _
  have HK := Lib.hid hk0; have HB := Lib.hid hb0
  have hbl : blen (bval L) ≤ 1920 := blen_bval_le (k := 240) hs.2.2.1 (by rw [hs.1]; exact hm)
  clear hk0 hb0
  obtain ⟨S, hS⟩ : ∃ S, S = (blen (bval L) + 7) / 8 := ⟨_, rfl⟩
  rw [← hS]
  have hSb : S ≤ 241 := by omega
  have HS := Lib.hid hS
  go_enter Tryd.func9, Tryd.ntmps9
  go_wp2_with fail
  refine (bWidth_any a m cb L E a2 a3 a4 a5 a6 a7 n2 c2 n3 c3 n4 c4 n5 c5 n6 c6 n7 c7 _ (hs.kept HK.out) hm).mono ?_
  rintro e w1 ⟨rfl, hk1⟩
  rw [← hS]
  have hb1 := blk_keeps HB.out hk1 (by simp)
  have hkk := HK.out.trans1 hk1
  obtain ⟨k0, k1, k2, k3, k4, k5, k6, k7⟩ := key8 hb1
  have HB1 := Lib.hid hb1; have HK1 := Lib.hid hkk
  clear hb1 hkk hk1 hS
  go_wp2_with fail
  refine (bPublicIs_any a m cb L E a2 a3 a4 a5 a6 a7 n2 c2 n3 c3 n4 c4 n5 c5 n6 c6 n7 c7 _ (hs.kept HK1.out) hm hE).mono ?_
  rintro e w2 ⟨⟨r, rfl, hr⟩, hk2⟩
  have hb2 := blk_keeps HB1.out hk2 (by simp)
  have hkk := HK1.out.trans1 hk2
  obtain ⟨k0, k1, k2, k3, k4, k5, k6, k7⟩ := key8 hb2
  have HB2 := Lib.hid hb2; have HK2 := Lib.hid hkk; have HR := Lib.hid hr
  clear hb2 hkk hk2 hr
  cases r
  · go_wp2_with fail
    go_ret2
    exact ⟨.inr ⟨.inl (fun h => by have := HR.out.2 h; simp at this), _, rfl⟩, HK2.out⟩
  · have hpub := HR.out.1 rfl
    go_wp2_with fail
    refine (bGreat_any a m cb L E a2 a3 a4 a5 a6 a7 n2 c2 n3 c3 n4 c4 n5 c5 n6 c6 n7 c7 _ (hs.kept HK2.out) hm).mono ?_
    rintro e w3 ⟨⟨r, rfl, hr⟩, hk3⟩
    have hb3 := blk_keeps HB2.out hk3 (by simp)
    have hkk := HK2.out.trans1 hk3
    obtain ⟨k0, k1, k2, k3, k4, k5, k6, k7⟩ := key8 hb3
    have HB3 := Lib.hid hb3; have HK3 := Lib.hid hkk; have HG := Lib.hid hr; have HPUB := Lib.hid hpub
    clear hb3 hkk hk3 hr hpub
    cases r
    · go_wp2_with fail
      go_ret2
      exact ⟨.inr ⟨.inr (.inl (by rcases Nat.lt_or_ge (blen (bval L)) 1024 with h | h; exact h; have := HG.out.2 h; simp at this)), _, rfl⟩, HK3.out⟩
    · have hgr := HG.out.1 rfl
      by_cases hfit : ts.size + 11 ≤ S
      · obtain ⟨need, hneed⟩ : ∃ need, need = S - ts.size - 3 := ⟨_, rfl⟩
        have i1 : ¬ (S : Int) - (ts.size : Int) - 3 < 8 := by omega
        have HN := Lib.hid hneed
        by_cases hle : need ≤ rs.size
        · have i2 : ¬ (rs.size : Int) < (S : Int) - (ts.size : Int) - 3 := by omega
          obtain ⟨cap, w4, hcv, hrow, hcap, hk4⟩ := convert_str (rs.extract 0 (S - ts.size - 3)) w3
          have hext := bytesOf_take rs (S - ts.size - 3) (by omega)
          rw [hext.2, ← hneed] at hcv hcap
          rw [hext.1, ← hneed] at hrow
          have hnI : (need : Int) = (S : Int) - (ts.size : Int) - 3 := by omega
          have HNI := Lib.hid hnI
          have hb4 := blk_keeps HB3.out hk4 (by simp)
          have HB4 := Lib.hid hb4; have HKW := Lib.hid hk4; have HK4 := Lib.hid (HK3.out.trans1 hk4); have HROW := Lib.hid hrow
          obtain ⟨R, hR⟩ : ∃ R, R = bytesOf rs := ⟨_, rfl⟩
          have hRl : Hid (R.length = rs.size) := Lib.hid (by rw [hR]; exact bytesOf_len rs)
          have hRt : Hid (LtB R) := Lib.hid (by rw [hR]; exact bytesOf_lt rs)
          have HRR := Lib.hid hR
          obtain ⟨tot, htot⟩ : ∃ tot, tot = fixAll (R.take need) (R.drop need) := ⟨_, rfl⟩
          have HTOT := Lib.hid htot
          rw [← hR] at hrow
          have HROW := Lib.hid hrow
          have hnl : need ≤ 300 := by omega
          rw [hneed] at hcv
          clear hneed hb4 hk4 hrow hR htot hnI k0 k1 k2 k3 k4 k5 k6 k7 hext
          go_wp2_with fail
          clear hcv
          rw [← HN.out, ← HNI.out]
          go_loopg [10, 11] need (fun gn nv iv wx => ∃ (i next : Nat) (D P : List Nat), gn = need - i ∧ nv = .int .i64 (next : Int) ∧ iv = .int .i64 (i : Int) ∧ i ≤ need ∧ next ≤ rs.size ∧ Hid (D.length = i) ∧ Hid (P.length = need - i) ∧ Hid (LtB D ∧ LtB P) ∧ Hid (RowM wx w3.heap.size (D ++ P)) ∧ Hid (tot = fixDone D P (R.drop next)) ∧ Hid (Keeps [] w3 wx))
          case atStart =>
            refine ⟨0, need, [], R.take need, by omega, rfl, by go_num, by omega, hle, Lib.hid rfl, Lib.hid (by have := hRl.out; simp; omega), Lib.hid ⟨fun x hx => by simp at hx, fun x hx => hRt.out x (List.mem_of_mem_take hx)⟩, Lib.hid ?_, Lib.hid ?_, HKW⟩
            · exact HROW.out
            · rw [HTOT.out]; exact fixAll_done _ _
          case round =>
            obtain ⟨i, next, D, P, hgi, rfl, rfl, hin, hnx, hD, hP, hLt, hB, hF, hK⟩ := hrel
            clear HROW
            by_cases hlt : i < need
            · have i1 : (i : Int) < (need : Int) := by omega
              obtain ⟨x, P', rfl⟩ : ∃ x P', P = x :: P' := by
                cases P with
                | nil => have := hP.out; simp at this; omega
                | cons x P' => exact ⟨x, P', rfl⟩
              have hF' := Lib.hid (show tot = fixRest D x P' (R.drop next) by rw [hF.out]; exact fixDone_cons D x P' _)
              have hP' := Lib.hid (show P'.length = need - (i + 1) by have := hP.out; simp at this; omega)
              have hLt' := Lib.hid (show LtB D ∧ x < 256 ∧ LtB P' from ⟨hLt.out.1, hLt.out.2 x (by simp), fun y hy => hLt.out.2 y (by simp [hy])⟩)
              clear hF hP hLt
              go_wp2_with fail
              go_loopg [10] (rs.size - next) (fun gn nv wx => ∃ (next x : Nat), gn = rs.size - next ∧ nv = .int .i64 (next : Int) ∧ next ≤ rs.size ∧ Hid (x < 256) ∧ Hid (RowM wx w3.heap.size (D ++ x :: P')) ∧ Hid (tot = fixRest D x P' (R.drop next)) ∧ Hid (Keeps [] w3 wx))
              case atStart => exact ⟨next, x, rfl, rfl, hnx, Lib.hid hLt'.out.2.1, hB, hF', hK⟩
              case round =>
                clear hB hF' hK
                obtain ⟨next, x, hgn, rfl, hnx, hx, hB, hF, hK⟩ := hrel
                have hxl := hx.out
                have hget := get_mid D P' x
                rw [hD.out] at hget
                have cx := hB.out.cell hget
                have fx := hB.out.free i (by have := hD.out; simp; omega)
                clear hget
                by_cases hx0 : x = 0
                · subst hx0
                  by_cases hn : next < rs.size
                  · have i2 : ¬ (next : Int) = (rs.size : Int) := by omega
                    have i3 : (next : Int) < (rs.size : Int) := by omega
                    obtain ⟨y, hy⟩ : ∃ y, y = (rs[next]'hn).toNat := ⟨_, rfl⟩
                    have hyl : y < 256 := by rw [hy]; exact (rs[next]'hn).toNat_lt
                    obtain ⟨hxor, hxl2⟩ := xor_66 y hyl
                    have hyR : R.drop next = y :: R.drop (next + 1) := by
                      have hnl : next < R.length := by rw [hRl.out]; exact hn
                      rw [List.drop_eq_getElem_cons hnl]
                      congr 1
                      rw [hy, bytesOf_get]
                      simp only [HRR.out]
                    have hB3 := hB.out.set i (y ^^^ 66) (by have := hD.out; simp; omega)
                    have e4 := set_mid D P' 0 (y ^^^ 66)
                    rw [hD.out] at e4
                    rw [e4] at hB3
                    have HB3 := Lib.hid hB3
                    have HK3' := Lib.hid (hK.out.setCell (p := ⟨w3.heap.size, i, none⟩) (fun h => absurd h (Nat.lt_irrefl _)) (.int .u8 ((y ^^^ 66 : Nat) : Int)))
                    have HF3 := Lib.hid (show tot = fixRest D (y ^^^ 66) P' (R.drop (next + 1)) by rw [hF.out, hyR]; exact fixRest_zero D y P' _)
                    have HXL := Lib.hid hxl2
                    clear hB3 e4 hyR hxl2 hyl
                    subst hy
                    go_wp2_with fail
                    go_roundg (rs.size - (next + 1))
                    case measure => omega
                    case rel => exact ⟨next + 1, _, rfl, by go_num, by omega, HXL, HB3, HF3, HK3'⟩
                  · have i2 : (next : Int) = (rs.size : Int) := by omega
                    have hnone : tot = none := by
                      rw [hF.out, List.drop_of_length_le (by rw [hRl.out]; omega)]
                      exact fixRest_none D P'
                    have HNO := Lib.hid hnone
                    have HKF := Lib.hid (HK3.out.trans1 hK.out)
                    clear hnone
                    go_wp2_with fail
                    go_ret2
                    refine ⟨.inr ⟨.inr (.inr (.inr (.inr ?_))), _, rfl⟩, HKF.out⟩
                    rw [← HN.out, ← HRR.out, ← HTOT.out]
                    exact HNO.out
                · have i2 : ¬ ((x : Int) = 0) := by omega
                  go_wp2_with fail
                  go_roundg (need - (i + 1))
                  case measure => omega
                  case rel =>
                    refine ⟨i + 1, next, D ++ [x], P', rfl, rfl, by go_num, by omega, hnx, Lib.hid (by simp [hD.out]), hP', Lib.hid ⟨fun z hz => ?_, hLt'.out.2.2⟩, Lib.hid ?_, Lib.hid ?_, hK⟩
                    · rcases List.mem_append.1 hz with h | h
                      · exact hLt'.out.1 z h
                      · simp at h; subst h; exact hx.out
                    · have h := hB.out
                      rw [List.append_assoc]
                      exact h
                    · rw [hF.out]; exact fixRest_pos D x P' _ hx0
            · have hi' : i = need := by omega
              have i1 : ¬ (i : Int) < (need : Int) := by omega
              have hP0 : P = [] := List.length_eq_zero_iff.1 (by have := hP.out; omega)
              have hfin : Hid (tot = some (D, R.drop next)) := Lib.hid (by rw [hF.out, hP0]; exact fixDone_nil D _)
              have hBf := Lib.hid (show RowM wr w3.heap.size D by have h := hB.out; rw [hP0, List.append_nil] at h; exact h)
              have hDf := Lib.hid (show D.length = need by rw [hD.out]; exact hi')
              have hb5 := blk_keeps HB3.out hK.out (by simp)
              obtain ⟨k0, k1, k2, k3, k4, k5, k6, k7⟩ := key8 hb5
              have HB5 := Lib.hid hb5; have HK5 := Lib.hid (HK3.out.trans1 hK.out)
              obtain ⟨sN, hcN, hsN, hsNn⟩ := convert_bytes (hs.kept HK5.out)
              have HSN := Lib.hid hsN
              clear hi' hP0 hP hF hB hb5 hsN
              go_wp2_with fail
              refine (lOf_any sN _ (by omega)).mono ?_
              rintro e w5 ⟨⟨aN, nN, cN, MN, rfl, hNN, hvN, hbN, hnN⟩, hk5⟩
              have HVN := Lib.hid hvN; have HNN := Lib.hid hNN
              clear hvN hNN hcN
              obtain ⟨ke, hke⟩ : ∃ ke : Nat, E = (ke : Int) := ⟨E.toNat, by have := HPUB.out.2.2.1; omega⟩
              subst hke
              have hkeb : ke < 2147483648 := by have := HPUB.out.2.2.2.1; omega
              have hSlD : SlB w5 (some ⟨w3.heap.size, 0, none⟩) need cap D := (hBf.out.kept hk5).slB hLt.out.1 hDf.out hcap
              obtain ⟨sP, _, hsP, hsPn⟩ := convert_bytes hSlD
              have hb6 := blk_keeps HB5.out hk5 (by simp)
              have mkS : ∀ w', Keeps [] w5 w' → ((convert 22 9 (.slice (some ⟨w3.heap.size, 0, none⟩) need cap)).run Tryd.prog w' = .ok (.string sP) w' ∧ w'.cell? ⟨w.heap.size, 0, none⟩ = some (.slice a m cb) ∧ w'.cell? ⟨w.heap.size, 1, none⟩ = some (.int .i64 (ke : Int)) ∧ w'.cell? ⟨w.heap.size, 2, none⟩ = some (.slice a2 n2 c2) ∧ w'.cell? ⟨w.heap.size, 3, none⟩ = some (.slice a3 n3 c3) ∧ w'.cell? ⟨w.heap.size, 4, none⟩ = some (.slice a4 n4 c4) ∧ w'.cell? ⟨w.heap.size, 5, none⟩ = some (.slice a5 n5 c5) ∧ w'.cell? ⟨w.heap.size, 6, none⟩ = some (.slice a6 n6 c6) ∧ w'.cell? ⟨w.heap.size, 7, none⟩ = some (.slice a7 n7 c7)) := fun w' hk => ⟨convert_the (hSlD.kept hk) hsP, key8 (blk_keeps hb6 hk (by simp))⟩
              have MKS := Lib.hid mkS
              have hS0 := mkS _ (Keeps.refl [] w5)
              obtain ⟨sT, hsT⟩ : ∃ sT : ByteArray, sT = (⟨#[0, 2]⟩ : ByteArray) ++ sP ++ (⟨#[0]⟩ : ByteArray) ++ ts := ⟨_, rfl⟩
              have hbT : bytesOf sT = [0, 2] ++ D ++ [0] ++ bytesOf ts := by
                rw [hsT, bytesOf_append, bytesOf_append, bytesOf_append, hsP]
                rfl
              have hTn : sT.size ≤ 700 := by
                have h1 := bytesOf_len sT
                rw [hbT] at h1
                have h2 := bytesOf_len ts
                have h3 := hDf.out
                simp at h1
                omega
              have HBT := Lib.hid hbT; have HSP := Lib.hid hsP; have HSLD := Lib.hid hSlD
              have hNgt : 1 < val32 MN := by rw [HVN.out, HSN.out]; exact HPUB.out.1
              have HNG := Lib.hid hNgt
              have hkx : ∀ w', Keeps [] w5 w' → N32 w' aN nN cN MN := fun w' hk => HNN.out.kept hk
              have HKX := Lib.hid hkx
              clear mkS hbT hsP hSlD hNgt hkx hb6
              go_wp2_with fail
              refine wp_region_txt2 [0,0,0,0,0,0,2,0,0,0,2,0,2,0,2,2,0,0,0,0,0] (fun w' => (convert 22 9 (.slice (some ⟨w3.heap.size, 0, none⟩) need cap)).run Tryd.prog w' = .ok (.string sP) w' ∧ w'.cell? ⟨w.heap.size, 0, none⟩ = some (.slice a m cb) ∧ w'.cell? ⟨w.heap.size, 1, none⟩ = some (.int .i64 (ke : Int)) ∧ w'.cell? ⟨w.heap.size, 2, none⟩ = some (.slice a2 n2 c2) ∧ w'.cell? ⟨w.heap.size, 3, none⟩ = some (.slice a3 n3 c3) ∧ w'.cell? ⟨w.heap.size, 4, none⟩ = some (.slice a4 n4 c4) ∧ w'.cell? ⟨w.heap.size, 5, none⟩ = some (.slice a5 n5 c5) ∧ w'.cell? ⟨w.heap.size, 6, none⟩ = some (.slice a6 n6 c6) ∧ w'.cell? ⟨w.heap.size, 7, none⟩ = some (.slice a7 n7 c7)) 6 10 4 (by kernel_rfl) (by kernel_rfl) (by kernel_rfl) (by kernel_rfl) (MKS.out _ ((Keeps.refl [] w5).drew)) ?ordA ?ordB
              case ordA =>
                simp only [withMarks]
                repeat (first
                  | ((with_reducible refine txt_v (v := ?_) ?_ ?_); (any_goals ((with_reducible refine Yl.mk ?_ ?_); rfl; intro w hSw; (go_simp <;> (try go_bits) <;> (repeat (first | rw [if_pos (by omega)] | rw [if_neg (by omega)])) <;> with_reducible rfl))); try simp only [Act.put, List.setIfInBounds_toArray, List.set_cons_zero, List.set_cons_succ])
                  | ((with_reducible refine txt_u ?_ ?_); rfl; try simp only [Act.put, List.setIfInBounds_toArray, List.set_cons_zero, List.set_cons_succ])
                  | ((with_reducible refine txt_l (v := ?_) ?_ ?_); (any_goals ((with_reducible refine Reads.mk ?_ ?_); rfl; (go_simp <;> (try go_bits) <;> (repeat (first | rw [if_pos (by omega)] | rw [if_neg (by omega)])) <;> with_reducible rfl))); try simp only [Act.put, List.setIfInBounds_toArray, List.set_cons_zero, List.set_cons_succ])
                  | ((with_reducible refine txt_e ?_ ?_); rfl; intro K hK; go_simp; (first | (refine hK _ _ (by first | exact MKS.out _ hkE | exact MKS.out _ hkD | exact MKS.out _ hkC | exact MKS.out _ (hkA.alloc _) | exact MKS.out _ hkA) ?_) | ((first | (go_at_call 20; refine (lBytes_any aP nP cP ((blen (bval L) + 7) / 8) MP _ (hNP.kept hkD') (by omega) (by omega) hfit2).mono ?_; rintro e wE ⟨⟨s2, rfl, q1, q2⟩, hkE'⟩; have hkE := hkD.trans1 hkE') | (go_at_call 6; refine (bWidth_any a m cb L (ke : Int) a2 a3 a4 a5 a6 a7 n2 c2 n3 c3 n4 c4 n5 c5 n6 c6 n7 c7 _ (hs.kept ((HK5.out.trans1 hk5).trans1 hkC)) hm).mono ?_; rintro e wD ⟨rfl, hkD'⟩; have hkD := hkC.trans1 hkD') | (go_at_call 21; refine (lPower_any aT (some ⟨wA.heap.size, 0, none⟩) aN nT cT 1 1 nN cN MT [ke] MN _ (hNT.kept ((Keeps.refl [] wA).alloc _)) (N32.new1 wA ke (by rw [W32_eq]; omega)) (HKX.out _ (hkA.alloc _)) (by omega) (by omega) (by omega) HNG.out).mono ?_; rintro e wC ⟨⟨aP, nP, cP, MP, rfl, hNP, hvP, hbP, hnP⟩, hkC'⟩; have hkC := (hkA.alloc (.cells #[.int .u32 (ke : Int)] 52)).trans1 hkC'; have hfit2 : val32 MP < 256 ^ ((blen (bval L) + 7) / 8) := fits_width (by rw [hvP, ← HSN.out, ← HVN.out]; exact Nat.mod_lt _ (by have := HNG.out; omega))) | (rw [← hsT]; go_at_call 11; refine (lOf_any sT _ (by omega)).mono ?_; rintro e wA ⟨⟨aT, nT, cT, MT, rfl, hNT, hvT, hbTb, hnT⟩, hkA'⟩; have hkA := (Keeps.refl [] w5).drew.trans1 hkA')); dsimp only; refine hK _ _ (by first | exact MKS.out _ hkE | exact MKS.out _ hkD | exact MKS.out _ hkC | exact MKS.out _ (hkA.alloc _) | exact MKS.out _ hkA) ?_)); clear hK K; try simp only [Act.put, List.setIfInBounds_toArray, List.set_cons_zero, List.set_cons_succ]))
                refine txt_nil ?_
                have HKF := Lib.hid ((HK5.out.trans1 hk5).trans1 hkE)
                have hval : val32 MP = bval ([0, 2] ++ D ++ [0] ++ bytesOf ts) ^ ke % bval L := by
                  rw [hvP, hvT, HBT.out, HVN.out, HSN.out]
                  simp [val32]
                have HVAL := Lib.hid hval
                clear hvP hvT hkE hkD hkC hkA hkE' hkD' hkC' hkA' hval hfit2 hsT
                go_wp2_with fail
                go_ret2
                refine ⟨.inl ⟨HPUB.out, hgr, hfit, by rw [← HN.out]; exact hle, D, R.drop next, ?_, s2, rfl, by rw [HS.out]; exact q1, ?_⟩, HKF.out⟩
                · rw [← HN.out, ← HRR.out, ← HTOT.out]; exact hfin.out
                · rw [q2]; exact HVAL.out
              case ordB =>
                simp only [withMarks, altP, insAt]
                repeat (first
                  | ((with_reducible refine txt_v (v := ?_) ?_ ?_); (any_goals ((with_reducible refine Yl.mk ?_ ?_); rfl; intro w hSw; (go_simp <;> (try go_bits) <;> (repeat (first | rw [if_pos (by omega)] | rw [if_neg (by omega)])) <;> with_reducible rfl))); try simp only [Act.put, List.setIfInBounds_toArray, List.set_cons_zero, List.set_cons_succ])
                  | ((with_reducible refine txt_u ?_ ?_); rfl; try simp only [Act.put, List.setIfInBounds_toArray, List.set_cons_zero, List.set_cons_succ])
                  | ((with_reducible refine txt_l (v := ?_) ?_ ?_); (any_goals ((with_reducible refine Reads.mk ?_ ?_); rfl; (go_simp <;> (try go_bits) <;> (repeat (first | rw [if_pos (by omega)] | rw [if_neg (by omega)])) <;> with_reducible rfl))); try simp only [Act.put, List.setIfInBounds_toArray, List.set_cons_zero, List.set_cons_succ])
                  | ((with_reducible refine txt_e ?_ ?_); rfl; intro K hK; go_simp; (first | (refine hK _ _ (by first | exact MKS.out _ hkE | exact MKS.out _ hkD | exact MKS.out _ hkC | exact MKS.out _ hkA | exact MKS.out _ ((Keeps.refl [] w5).drew.alloc _)) ?_) | ((first | (go_at_call 20; refine (lBytes_any aP nP cP ((blen (bval L) + 7) / 8) MP _ (hNP.kept hkD') (by omega) (by omega) hfit2).mono ?_; rintro e wE ⟨⟨s2, rfl, q1, q2⟩, hkE'⟩; have hkE := hkD.trans1 hkE') | (go_at_call 6; refine (bWidth_any a m cb L (ke : Int) a2 a3 a4 a5 a6 a7 n2 c2 n3 c3 n4 c4 n5 c5 n6 c6 n7 c7 _ (hs.kept ((HK5.out.trans1 hk5).trans1 hkC)) hm).mono ?_; rintro e wD ⟨rfl, hkD'⟩; have hkD := hkC.trans1 hkD') | (go_at_call 21; refine (lPower_any aT (some ⟨w5.heap.size, 0, none⟩) aN nT cT 1 1 nN cN MT [ke] MN _ hNT ((N32.new1 w5.drew ke (by rw [W32_eq]; omega)).kept hkA') (HKX.out _ hkA) (by omega) (by omega) (by omega) HNG.out).mono ?_; rintro e wC ⟨⟨aP, nP, cP, MP, rfl, hNP, hvP, hbP, hnP⟩, hkC'⟩; have hkC := hkA.trans1 hkC'; have hfit2 : val32 MP < 256 ^ ((blen (bval L) + 7) / 8) := fits_width (by rw [hvP, ← HSN.out, ← HVN.out]; exact Nat.mod_lt _ (by have := HNG.out; omega))) | (rw [← hsT]; go_at_call 11; refine (lOf_any sT _ (by omega)).mono ?_; rintro e wA ⟨⟨aT, nT, cT, MT, rfl, hNT, hvT, hbTb, hnT⟩, hkA'⟩; have hkA := ((Keeps.refl [] w5).drew.alloc (.cells #[.int .u32 (ke : Int)] 52)).trans1 hkA')); dsimp only; refine hK _ _ (by first | exact MKS.out _ hkE | exact MKS.out _ hkD | exact MKS.out _ hkC | exact MKS.out _ hkA | exact MKS.out _ ((Keeps.refl [] w5).drew.alloc _)) ?_)); clear hK K; try simp only [Act.put, List.setIfInBounds_toArray, List.set_cons_zero, List.set_cons_succ]))
                refine txt_nil ?_
                have HKF := Lib.hid ((HK5.out.trans1 hk5).trans1 hkE)
                have hval : val32 MP = bval ([0, 2] ++ D ++ [0] ++ bytesOf ts) ^ ke % bval L := by
                  rw [hvP, hvT, HBT.out, HVN.out, HSN.out]
                  simp [val32]
                have HVAL := Lib.hid hval
                clear hvP hvT hkE hkD hkC hkA hkE' hkD' hkC' hkA' hval hfit2 hsT
                go_wp2_with fail
                go_ret2
                refine ⟨.inl ⟨HPUB.out, hgr, hfit, by rw [← HN.out]; exact hle, D, R.drop next, ?_, s2, rfl, by rw [HS.out]; exact q1, ?_⟩, HKF.out⟩
                · rw [← HN.out, ← HRR.out, ← HTOT.out]; exact hfin.out
                · rw [q2]; exact HVAL.out
        · have i2 : (rs.size : Int) < (S : Int) - (ts.size : Int) - 3 := by omega
          clear hneed
          go_wp2_with fail
          go_ret2
          exact ⟨.inr ⟨.inr (.inr (.inr (.inl (by rw [← HN.out]; omega)))), _, rfl⟩, HK3.out⟩
      · have i1 : (S : Int) - (ts.size : Int) - 3 < 8 := by omega
        go_wp2_with fail
        go_ret2
        exact ⟨.inr ⟨.inr (.inr (.inl (by omega))), _, rfl⟩, HK3.out⟩

end Go.Proofs.YtnfjmngchapdnaaDoor
