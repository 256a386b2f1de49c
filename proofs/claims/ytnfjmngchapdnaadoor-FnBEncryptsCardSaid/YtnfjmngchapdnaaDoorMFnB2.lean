import Derived.Test.YtnfjmngchapdnaaDoorMBEnc
import Derived.Test.YtnfjmngchapdnaaDoorMBSealed
import Derived.Test.YtnfjmngchapdnaaDoorMPubIs
/- laws.FnBEncrypts. -/
namespace Go.Proofs.YtnfjmngchapdnaaDoor
open Go.RowKit

theorem bval_cons (x : Nat) (L : List Nat) : bval (x :: L) = x * 256 ^ L.length + bval L := by
  have h := bval_append [x] L
  have e : bval [x] = x := by simp [bval]
  rw [e] at h
  exact h
theorem bval_inj : ∀ {L M : List Nat}, LtB L → LtB M → L.length = M.length → bval L = bval M → L = M
  | [], [], _, _, _, _ => rfl
  | [], _ :: _, _, _, h, _ => by simp at h
  | _ :: _, [], _, _, h, _ => by simp at h
  | x :: L, y :: M, hL, hM, hl, h => by
    have hl' : L.length = M.length := by simpa using hl
    rw [bval_cons, bval_cons, hl'] at h
    have h1 := bval_lt (L := L) fun z hz => hL z (by simp [hz])
    have h2 := bval_lt (L := M) fun z hz => hM z (by simp [hz])
    rw [hl'] at h1
    have hp : 0 < 256 ^ M.length := Nat.pow_pos (by omega)
    have e1 : x = y := by
      have h3 := congrArg (fun t => t / 256 ^ M.length) h
      rw [Nat.mul_comm x, Nat.mul_comm y, Nat.mul_add_div hp, Nat.mul_add_div hp, Nat.div_eq_of_lt h1, Nat.div_eq_of_lt h2] at h3
      omega
    subst e1
    rw [bval_inj (fun z hz => hL z (by simp [hz])) (fun z hz => hM z (by simp [hz])) hl' (by omega)]

set_option maxRecDepth 100000 in
set_option maxHeartbeats 4000000 in
theorem fnBEncrypts_any (a : Option Addr) (m cb : Nat) (L : List Nat) (E : Int) (a2 a3 a4 a5 a6 a7 : Option Addr) (n2 c2 n3 c3 n4 c4 n5 c5 n6 c6 n7 c7 : Nat) (aR : Option Addr) (nR cR : Nat) (R : List Nat) (aM : Option Addr) (ml mc : Nat) (M : List Nat) (w : World) (b0 b1 b2 b3 : Addr)
    (hg : Gl w b0 b1 b2 b3) (hs : SlB w a m cb L) (hE : -9223372036854775808 ≤ E ∧ E < 9223372036854775808) (hR : SlB w aR nR cR R) (hM : SlB w aM ml mc M) :
    Calls Tryd.prog 3 #[.agg #[.slice a m cb, .int .i64 E, .slice a2 n2 c2, .slice a3 n3 c3, .slice a4 n4 c4, .slice a5 n5 c5, .slice a6 n6 c6, .slice a7 n7 c7], .slice aR nR cR, .slice aM ml mc] w fun e w' => e = .returned (.bool true) ∧ Keeps [] w w' := by
  have hb0 : (w.alloc (.cells #[Value.slice a m cb, .int .i64 E, .slice a2 n2 c2, .slice a3 n3 c3, .slice a4 n4 c4, .slice a5 n5 c5, .slice a6 n6 c6, .slice a7 n7 c7] 24)).heap[w.heap.size]? = some (.cells #[Value.slice a m cb, .int .i64 E, .slice a2 n2 c2, .slice a3 n3 c3, .slice a4 n4 c4, .slice a5 n5 c5, .slice a6 n6 c6, .slice a7 n7 c7] 24 (0, 0)) := by
    show (w.heap.push _)[w.heap.size]? = _
    rw [Array.getElem?_push, if_pos rfl]
  have hk0 : Keeps [] w (w.alloc (.cells #[Value.slice a m cb, .int .i64 E, .slice a2 n2 c2, .slice a3 n3 c3, .slice a4 n4 c4, .slice a5 n5 c5, .slice a6 n6 c6, .slice a7 n7 c7] 24)) := (Keeps.refl _ _).alloc _
  have HK := Lib.hid hk0; have HB := Lib.hid hb0
  clear hk0 hb0
  go_enter Tryd.func3, Tryd.ntmps3
  go_wp2_with fail
  refine (zzFits4_any E a a2 a3 a4 a5 a6 a7 m cb n2 c2 n3 c3 n4 c4 n5 c5 n6 c6 n7 c7 _).mono ?_
  rintro e w1 ⟨⟨v, rfl, r, rfl⟩, hk1⟩
  have hb1 := blk_keeps HB.out hk1 (by simp)
  have hk := HK.out.trans1 hk1
  obtain ⟨k0, k1, k2, k3, k4, k5, k6, k7⟩ := key8 hb1
  have HB1 := Lib.hid hb1; have HK1 := Lib.hid hk
  clear hb1 hk hk1
  cases r
  · go_wp2
    go_ret
    exact ⟨rfl, HK1.out⟩
  · by_cases hz1 : nR ≤ 2147483647
    · have z1 : ¬ (2147483647 : Int) < (nR : Int) := by omega
      by_cases hz2 : ml ≤ 2147483647
      · have z2 : ¬ (2147483647 : Int) < (ml : Int) := by omega
        have hkt : Keeps [] w1 (w1.alloc (.cells #[.slice a m cb] 22)) := (Keeps.refl _ _).alloc _
        have hct : ∀ i, i < 1 → (w1.alloc (.cells #[.slice a m cb] 22)).cell? ⟨w1.heap.size, i, none⟩ = some (.slice ((fun _ => a) i) ((fun _ => m) i) ((fun _ => cb) i)) := by
          intro i hi
          have : i = 0 := by omega
          subst this
          rw [alloc_cell]; rfl
        have hst := (hs.kept HK1.out).kept hkt
        have hb2 := blk_keeps HB1.out hkt (by simp)
        have hk2 := HK1.out.trans1 hkt
        have HT := Lib.hid hkt; have HC := Lib.hid hct; have HST := Lib.hid hst; have HB2 := Lib.hid hb2; have HK2 := Lib.hid hk2
        clear hkt hct hst hb2 hk2
        go_wp2_with fail
        refine (bTidy_any w1.heap.size 1 1 (fun _ => a) (fun _ => m) (fun _ => cb) (fun _ => L) _ (by omega) HC.out (fun _ _ => HST.out)).mono ?_
        rintro e w2 ⟨⟨r, rfl, hr⟩, rfl⟩
        cases r
        · clear hr
          go_wp2_with fail
          refine (bAwake_any _).mono ?_
          rintro e w3 ⟨rfl, hk3⟩
          go_wp2
          go_ret
          exact ⟨rfl, HK2.out.trans1 hk3⟩
        · have ht := hr.1 rfl 0 (by omega)
          have hm : m ≤ 240 := by have := ht.1; have := hs.1; omega
          clear hr ht
          obtain ⟨w2, hw2⟩ : ∃ w2, w2 = w1.alloc (.cells #[.slice a m cb] 22) := ⟨_, rfl⟩
          rw [← hw2] at HST HB2 HK2 ⊢
          clear hw2 HT HC k0 k1 k2 k3 k4 k5 k6 k7
          obtain ⟨k0, k1, k2, k3, k4, k5, k6, k7⟩ := key8 HB2.out
          go_wp2_with fail
          refine (bWidth_any a m cb L E a2 a3 a4 a5 a6 a7 n2 c2 n3 c3 n4 c4 n5 c5 n6 c6 n7 c7 _ HST.out hm).mono ?_
          rintro e w3 ⟨rfl, hk3⟩
          obtain ⟨S, hS⟩ : ∃ S, S = (blen (bval L) + 7) / 8 := ⟨_, rfl⟩
          rw [← hS]
          have HS := Lib.hid hS
          have hb3 := blk_keeps HB2.out hk3 (by simp)
          have hk := HK2.out.trans1 hk3
          clear k0 k1 k2 k3 k4 k5 k6 k7
          obtain ⟨k0, k1, k2, k3, k4, k5, k6, k7⟩ := key8 hb3
          have HB3 := Lib.hid hb3; have HK3 := Lib.hid hk
          clear hb3 hk hk3 hS
          by_cases hlook : S ≤ 238 ∧ nR ≤ 300 ∧ ml ≤ 300
          · obtain ⟨l1, l2, l3⟩ := hlook
            have y1 : ¬ (238 : Int) < (S : Int) := by omega
            have y2 : ¬ (300 : Int) < (nR : Int) := by omega
            have y3 : ¬ (300 : Int) < (ml : Int) := by omega
            have henc := bEncrypt_any a m cb L E a2 a3 a4 a5 a6 a7 n2 c2 n3 c3 n4 c4 n5 c5 n6 c6 n7 c7 aR nR cR R aM ml mc M w3 b0 b1 b2 b3 (hg.keeps HK3.out (by simp)) (hs.kept HK3.out) hm hE (hR.kept HK3.out) (hM.kept HK3.out) l2 l3
            rw [← HS.out] at henc
            have HENC := Lib.hid henc
            clear henc
            go_wp2_with fail
            refine HENC.out.mono ?_
            rintro e w4 ⟨hbe, hk4⟩
            have hb4 := blk_keeps HB3.out hk4 (by simp)
            have hk := HK3.out.trans1 hk4
            obtain ⟨k0, k1, k2, k3, k4, k5, k6, k7⟩ := key8 hb4
            obtain ⟨rs, hcr, hrb, hrn⟩ := convert_bytes (hR.kept hk)
            obtain ⟨ts, hct, htb, htn⟩ := convert_bytes (hM.kept hk)
            have hsea := bSealed_any a m cb L E a2 a3 a4 a5 a6 a7 n2 c2 n3 c3 n4 c4 n5 c5 n6 c6 n7 c7 rs ts w4 (hs.kept hk) hm hE (by omega) (by omega)
            rw [hrb, htb, hrn, htn, ← HS.out] at hsea
            have HSEA := Lib.hid hsea; have HB4 := Lib.hid hb4; have HK4 := Lib.hid hk
            clear hsea hb4 hk hrb htb
            rcases hbe with ⟨q1, q2, q3, q4, P, T, q5, B, O, rfl, q6, q7, q8, q9⟩ | ⟨hno, x, rfl⟩
            · have HQ9 := Lib.hid q9; have HQ8 := Lib.hid q8; have HQ5 := Lib.hid q5
              clear q9 q8 q5
              go_wp2_with fail
              refine HSEA.out.mono ?_
              rintro e w5 ⟨hse, hk5⟩
              rcases hse with ⟨_, _, _, _, P', T', r5, s, rfl, r6, r7⟩ | ⟨hno, s, rfl⟩
              · have e5 := HQ5.out.symm.trans r5
                simp only [Option.some.injEq, Prod.mk.injEq] at e5
                obtain ⟨rfl, rfl⟩ := e5
                have hO : O = bytesOf s := bval_inj q7 (bytesOf_lt s) (by rw [q6, r6]) (by rw [HQ8.out, r7])
                have hcg := convert_the (HQ9.out.kept hk5) hO.symm
                have HK5 := Lib.hid (HK4.out.trans1 hk5)
                clear hO r5 r6 r7 hk5
                go_wp2_with fail
                refine (bAwake_any _).mono ?_
                rintro e w6 ⟨rfl, hk6⟩
                go_wp2_with fail
                go_ret
                exact ⟨rfl, HK5.out.trans1 hk6⟩
              · exfalso
                rcases hno with h | h | h | h | h
                · exact h q1
                · omega
                · omega
                · omega
                · rw [HQ5.out] at h; cases h
            · go_wp2_with fail
              refine HSEA.out.mono ?_
              rintro e w5 ⟨hse, hk5⟩
              rcases hse with ⟨r1, r2, r3, r4, P', T', r5, s, rfl, r6, r7⟩ | ⟨_, s, rfl⟩
              · exfalso
                rcases hno with h | h | h | h | h
                · exact h r1
                · omega
                · omega
                · omega
                · rw [r5] at h; cases h
              · have HK5 := Lib.hid (HK4.out.trans1 hk5)
                clear hk5 hno
                go_wp2_with fail
                refine (bAwake_any _).mono ?_
                rintro e w6 ⟨rfl, hk6⟩
                go_wp2_with fail
                go_ret
                exact ⟨rfl, HK5.out.trans1 hk6⟩
          · by_cases l1 : S ≤ 238
            · have y1 : ¬ (238 : Int) < (S : Int) := by omega
              by_cases l2 : nR ≤ 300
              · have y2 : ¬ (300 : Int) < (nR : Int) := by omega
                have y3 : (300 : Int) < (ml : Int) := by omega
                go_wp2_with fail
                refine (bAwake_any _).mono ?_
                rintro e w4 ⟨rfl, hk4⟩
                go_wp2_with fail
                go_ret
                exact ⟨rfl, HK3.out.trans1 hk4⟩
              · have y2 : (300 : Int) < (nR : Int) := by omega
                go_wp2_with fail
                refine (bAwake_any _).mono ?_
                rintro e w4 ⟨rfl, hk4⟩
                go_wp2_with fail
                go_ret
                exact ⟨rfl, HK3.out.trans1 hk4⟩
            · have y1 : (238 : Int) < (S : Int) := by omega
              go_wp2_with fail
              refine (bAwake_any _).mono ?_
              rintro e w4 ⟨rfl, hk4⟩
              go_wp2_with fail
              go_ret
              exact ⟨rfl, HK3.out.trans1 hk4⟩
      · have z2 : (2147483647 : Int) < (ml : Int) := by omega
        go_wp2
        go_ret
        exact ⟨rfl, HK1.out⟩
    · have z1 : (2147483647 : Int) < (nR : Int) := by omega
      go_wp2
      go_ret
      exact ⟨rfl, HK1.out⟩

end Go.Proofs.YtnfjmngchapdnaaDoor
