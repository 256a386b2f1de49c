import Derived.Test.YtnfjmngchapdnaaMMod
import Derived.Test.YtnfjmngchapdnaaMCmp
import Derived.Deep.LoopGhost
/- bigmod: shiftIn (x = x * 2^64 + y mod m). -/
namespace Go.Proofs.Ytnfjmngchapdnaa
open Go.RowKit

/-- The list that stands, of two. -/
def pickL (nd : Nat) (X D : List Nat) : List Nat := if nd = 1 then D else X
theorem pickL_len {nd n : Nat} {X D : List Nat} (h1 : X.length = n) (h2 : D.length = n) : (pickL nd X D).length = n := by unfold pickL; split <;> assumption

theorem sh_round {C X : List Nat} {b cy cy' s k : Nat} (hk : k < X.length) (hc : k < C.length) (h : val (X.take k) + cy * BB ^ k = 2 * val (C.take k) + b) (hr : AddR C[k] C[k] cy s cy') :
    val ((X.set k s).take (k + 1)) + cy' * BB ^ (k + 1) = 2 * val (C.take (k + 1)) + b := by
  rw [val_take_succ _ k (by simpa using hk), val_take_succ C k hc]
  rw [List.take_set_of_le (by omega), List.getElem_set_self]
  have h2 := congrArg (BB ^ k * ·) hr.eq
  simp only [Nat.mul_add] at h2
  have e : cy' * BB ^ (k + 1) = BB ^ k * (cy' * BB) := by
    rw [Nat.pow_succ, ← Nat.mul_assoc, Nat.mul_comm cy', Nat.mul_assoc]
  rw [e]
  have e2 : cy * BB ^ k = BB ^ k * cy := Nat.mul_comm _ _
  rw [e2] at h
  omega
theorem sh_sub {D X M : List Nat} {bo bo' s k : Nat} (hk : k < D.length) (hx : k < X.length) (hm : k < M.length) (h : val (D.take k) + val (M.take k) = val (X.take k) + bo * BB ^ k) (hr : SubR X[k] M[k] bo s bo') :
    val ((D.set k s).take (k + 1)) + val (M.take (k + 1)) = val (X.take (k + 1)) + bo' * BB ^ (k + 1) := by
  rw [val_take_succ _ k (by simpa using hk), val_take_succ X k hx, val_take_succ M k hm]
  rw [List.take_set_of_le (by omega), List.getElem_set_self]
  have h2 := congrArg (BB ^ k * ·) hr.eq
  simp only [Nat.mul_add] at h2
  have e : bo' * BB ^ (k + 1) = BB ^ k * (bo' * BB) := by
    rw [Nat.pow_succ, ← Nat.mul_assoc, Nat.mul_comm bo', Nat.mul_assoc]
  rw [e]
  have e2 : bo * BB ^ k = BB ^ k * bo := Nat.mul_comm _ _
  rw [e2] at h
  omega
/-- The end of a round of bits. -/
theorem sh_end {c b m R X D cy bo : Nat} (hc : c < m) (hb : b ≤ 1) (hX : X < R) (hD : D < R) (hm : m < R) (hcy : cy ≤ 1) (hbo : bo ≤ 1) (h1 : X + cy * R = 2 * c + b) (h2 : D + m = X + bo * R) :
    (if ¬ bo = 1 ∨ cy = 1 then D else X) = (2 * c + b) % m := by
  have h0 : (2 * c + b) % m = if 2 * c + b < m then 2 * c + b else 2 * c + b - m := by
    split
    · rename_i h; exact Nat.mod_eq_of_lt h
    · rw [Nat.mod_eq_sub_mod (by omega), Nat.mod_eq_of_lt (by omega)]
  rw [h0]
  rcases (by omega : cy = 0 ∨ cy = 1) with rfl | rfl <;> rcases (by omega : bo = 0 ∨ bo = 1) with rfl | rfl <;> simp at * <;> (try split) <;> omega
theorem sh_bit (v y m j : Nat) : (2 * ((v * 2 ^ (64 - (j + 1)) + y / 2 ^ (j + 1)) % m) + y / 2 ^ j % 2) % m = (v * 2 ^ (64 - (j + 1) + 1) + y / 2 ^ j) % m := by
  have h1 : y / 2 ^ (j + 1) = y / 2 ^ j / 2 := by rw [Nat.pow_succ, Nat.div_div_eq_div_mul]
  rw [h1]
  have h2 := Nat.div_add_mod (y / 2 ^ j) 2
  rw [Nat.add_mod, Nat.mul_mod, Nat.mod_mod, ← Nat.mul_mod, ← Nat.add_mod]
  congr 1
  rw [Nat.pow_succ]
  have : v * (2 ^ (64 - (j + 1)) * 2) = 2 * (v * 2 ^ (64 - (j + 1))) := by rw [← Nat.mul_assoc, Nat.mul_comm]
  omega

set_option maxRecDepth 100000 in
set_option maxHeartbeats 2000000 in
theorem nat_shiftIn (p lb n c v y pm pn ln m m0 : Nat) (odd : Bool) (rv : Value) (w : World) (hx : NatV w p lb n c v) (hm : ModB w pm pn ln n m odd m0 rv) (hl : ln ≠ lb) (hc : c ≤ 1000) (hv : v < m) (hy : y < BB) :
    Calls Try.prog 72 #[.pointer (some ⟨p, 0, none⟩), .int .u64 (y : Int), .pointer (some ⟨pm, 0, none⟩)] w fun e w' =>
      e = .returned (.pointer (some ⟨p, 0, none⟩)) ∧ NatV w' p lb n c ((v * BB + y) % m) ∧ Keeps [lb] w w' := by
  have hn32 := hm.nat.le
  have g1 := hx.le
  go_enter Try.func72, Try.ntmps72
  go_wp2_with fail
  refine (newNat_any _).mono ?_
  rintro e w1 ⟨pt, lt, rfl, ht, hpt, hlt, hk1⟩
  have o1 := hx.old hpt; have o2 := hx.old hlt; have o3 := hm.old hpt; have o4 := hm.old hlt
  have hx1 := hx.kept hk1
  have hm1 := hm.kept hk1
  go_wp2_with fail
  refine (nat_resetFor pt lt 0 32 0 pm pn ln n m m0 odd rv _ ht hm1 hn32 (by omega)).mono ?_
  rintro e w2 ⟨rfl, ht2, hk2⟩
  have hx2 := hx1.keeps hk2 (by simp [o1.1, o2.1]) (by simp [o1.2, o2.2])
  have hm2 := hm1.keeps hk2 (by simp [o3.1, o4.1]) (by simp [o3.2.1, o4.2.1]) (by simp [o3.2.2, o4.2.2])
  have cm := hm2.hdr.c0
  have cn := hm2.nat.hdr.cell
  have cx := hx2.hdr.cell
  have ct := ht2.hdr.cell
  have hkk : Keeps [] w w2 := (hk1.trans hk2 (by intro x hx hlt; simp at hx; omega))
  have HPT := Lib.hid ht2; have HPX := Lib.hid hx2
  have HK := Lib.hid hkk
  obtain ⟨hh, L, J, hL1, hL2, hL3, hL4, hL5⟩ := hx2
  obtain ⟨hth, D0, I0, hD1, hD2, hD3, hD4, hD5⟩ := ht2
  obtain ⟨hmh, M, JM, hM1, hM2, hM3, hM4, hM5⟩ := hm2.nat
  have n1 : lt ≠ lb := Ne.symm o2.2
  have n2 : lt ≠ ln := Ne.symm o4.2.2
  have KL2 := Lib.hid hL2; have KL3 := Lib.hid hL3; have KL5 := Lib.hid hL5; have KM2 := Lib.hid hM2; have KM5 := Lib.hid hM5
  have KD2 := Lib.hid hD2; have KD3 := Lib.hid hD3; have KD5 := Lib.hid hD5
  have HX0 := Lib.hid hx; have HM0 := Lib.hid hm
  clear hh hth hmh hL2 hL3 hL5 hM2 hM3 hM5 hD2 hD3 hD5 hx1 hm1 hm2 hk1 hk2 hkk hx hm ht o1 o2 o3 o4
  go_wp2_with fail
  clear cm cn cx ct
  go_loopg [12, 13] 64 (fun gn nv iv wx => ∃ (j nd : Nat) (I : Int) (X D : List Nat), gn = j ∧ nv = .int .u64 (nd : Int) ∧ iv = .int .i64 I ∧ Hid (I = (j : Int) - 1) ∧ j ≤ 64 ∧ nd ≤ 1 ∧ Hid (X.length = n) ∧ Hid (D.length = n) ∧ Lt X ∧ Lt D ∧ Hid (Row wx lb (X ++ J)) ∧ Hid (Row wx lt (D ++ I0)) ∧ Hid (val (pickL nd X D) = (v * 2 ^ (64 - j) + y / 2 ^ j) % m) ∧ Hid (Keeps [lb, lt] w2 wx))
  case atStart =>
    refine ⟨64, 0, _, L, D0, rfl, rfl, rfl, Lib.hid (by omega), Nat.le_refl _, by omega, KL2, KD2, hL4, hD4, Lib.hid hL1, Lib.hid hD1, Lib.hid ?_, Lib.hid (Keeps.refl _ _)⟩
    unfold BB at hy
    rw [Nat.div_eq_of_lt (by omega)]
    simp [pickL, KL5.out, Nat.mod_eq_of_lt hv]
  case round =>
    obtain ⟨j, nd, I, X, D, hgj, rfl, rfl, hI, hj, hnd, hXn, hDn, hXl, hDl, hX, hD, hval, hK⟩ := hrel
    cases j with
    | zero =>
      have i1 : decide (0 ≤ I) = false := by have := hI.out; simp; omega
      go_wp2_with fail
      have hxx : NatV wr p lb n c (val X) := ⟨HPX.out.hdr.keeps hK.out (by simp [HPX.out.ne, HPX.out.ne2 HPT.out]), X, J, hX.out, hXn.out, by have := hXn.out; have := KL3.out; have := KL2.out; omega, hXl, rfl⟩
      have hdd : NatV wr pt lt n 32 (val D) := ⟨HPT.out.hdr.keeps hK.out (by simp [HPT.out.ne, HPT.out.ne2 HPX.out]), D, I0, hD.out, hDn.out, by have := hDn.out; have := KD3.out; have := KD2.out; omega, hDl, rfl⟩
      refine (nat_assign (pr := nd = 1) p lb pt lt n c 32 (val X) (val D) nd _ hxx hdd (Ne.symm n1) ⟨hnd, Iff.rfl⟩ (by omega)).mono ?_
      rintro e w3 ⟨v', rfl, hv1, hv2, hx3, hk3⟩
      have e1 : v' = (v * BB + y) % m := by
        have h0 := hval.out
        rw [Nat.pow_zero, Nat.div_one, Nat.sub_zero, ← BB_eq] at h0
        rw [← h0]
        unfold pickL
        split
        · rename_i h; exact hv1 h
        · rename_i h; exact hv2 h
      subst e1
      have HX3 := Lib.hid hx3
      have HK3 := Lib.hid (((HK.out.mono (T := [lb]) (by simp)).trans hK.out (by intro x hx hlt; simp at hx ⊢; omega)).trans1 hk3)
      clear hx3 hk3 hv1 hv2 hxx hdd
      go_wp2
      go_ret
      exact ⟨rfl, HX3.out, HK3.out⟩
    | succ j =>
      have hI' : I = (j : Int) := by have := hI.out; omega
      subst hI'
      obtain ⟨yj, hyj⟩ : ∃ z, z = y / 2 ^ j := ⟨_, rfl⟩
      have hyl : yj < BB := by
        have h1 : y / 2 ^ j ≤ y := Nat.div_le_self _ _
        omega
      have hand := and_one yj hyl
      have hyI : (y : Int) / 2 ^ j = (yj : Int) := by rw [hyj]; simp
      have HY := Lib.hid hyj
      clear hyj
      obtain ⟨b, hb⟩ : ∃ b, b = yj % 2 := ⟨_, rfl⟩
      have hb1 : b ≤ 1 := by omega
      rw [← hb] at hand
      have HB := Lib.hid hb
      clear hb
      go_wp2_with fail
      refine (ctMask_any (p := nd = 1) nd ⟨hnd, Iff.rfl⟩ _).mono ?_
      rintro e w3 ⟨mk, rfl, hmk, rfl⟩
      go_wp2_with fail
      go_loopg [14, 15, 17] n (fun gn cv bv iv wx => ∃ (k cy bo : Nat) (X' D' : List Nat), gn = n - k ∧ cv = .int .u64 (cy : Int) ∧ bv = .int .u64 (bo : Int) ∧ iv = .int .i64 (k : Int) ∧ k ≤ n ∧ cy ≤ 1 ∧ bo ≤ 1 ∧ Hid (X'.length = n) ∧ Hid (D'.length = n) ∧ Lt X' ∧ Lt D' ∧ Hid (Row wx lb (X' ++ J)) ∧ Hid (Row wx lt (D' ++ I0)) ∧ Hid (X'.drop k = X.drop k) ∧ Hid (D'.drop k = D.drop k) ∧ Hid (val (X'.take k) + cy * BB ^ k = 2 * val ((pickL nd X D).take k) + b) ∧ Hid (val (D'.take k) + val (M.take k) = val (X'.take k) + bo * BB ^ k) ∧ Hid (Keeps [lb, lt] w2 wx))
      case atStart =>
        exact ⟨0, b, 0, X, D, rfl, rfl, rfl, rfl, Nat.zero_le _, hb1, by omega, hXn, hDn, hXl, hDl, hX, hD, Lib.hid rfl, Lib.hid rfl, Lib.hid (by simp [val]), Lib.hid (by simp [val]), hK⟩
      case round =>
        obtain ⟨k, cy, bo, X', D', hgk, rfl, rfl, rfl, hk, hcy, hbo, hXn', hDn', hXl', hDl', hX', hD', hXd, hDd, hsum, hsub, hK'⟩ := hrel
        by_cases hlt2 : k < n
        · have c1 := hX'.out.cell k (by have := hXn'.out; simp; omega)
          have c2 := hD'.out.cell k (by have := hDn'.out; simp; omega)
          have c3 := hX'.out.free k
          have b1 := hXl'.get k (by have := hXn'.out; omega)
          have b2 := hDl'.get k (by have := hDn'.out; omega)
          have b3 := hM4.get k (by have := KM2.out; omega)
          rw [List.getElem_append_left (by have := hXn'.out; omega)] at c1
          rw [List.getElem_append_left (by have := hDn'.out; omega)] at c2
          obtain ⟨xk, hxk⟩ : ∃ x, X'[k]'(by have := hXn'.out; omega) = x := ⟨_, rfl⟩
          obtain ⟨dk, hdk⟩ : ∃ x, D'[k]'(by have := hDn'.out; omega) = x := ⟨_, rfl⟩
          obtain ⟨mk', hmk'⟩ : ∃ x, M[k]'(by have := KM2.out; omega) = x := ⟨_, rfl⟩
          rw [hxk] at c1 b1
          rw [hdk] at c2 b2
          rw [hmk'] at b3
          have Hxk := Lib.hid hxk; have Hdk := Lib.hid hdk; have Hmk := Lib.hid hmk'; clear hxk hdk hmk'
          obtain ⟨z, hz, hz1, hz2, hz3⟩ := pick_mask hmk xk dk b1 b2
          have Hz2 := Lib.hid hz2; have Hz3 := Lib.hid hz3; clear hz2 hz3
          go_wp2_with fail
          refine wp_region_txt [0,0,0,1,0,0,0,0,1,0,0,0,1,0,0,0,0] (fun _ => True) (by kernel_rfl) (by kernel_rfl) trivial ?_
          simp only [withMarks]
          repeat (first
            | ((with_reducible refine txt_v (v := ?_) ?_ ?_); (any_goals ((with_reducible refine Yl.mk ?_ ?_); rfl; intro w hSw; (go_simp <;> (try go_bits) <;> (repeat (first | rw [if_pos (by omega)] | rw [if_neg (by omega)])) <;> with_reducible rfl))); try simp only [Act.put, List.setIfInBounds_toArray, List.set_cons_zero, List.set_cons_succ])
            | ((with_reducible refine txt_u ?_ ?_); rfl; try simp only [Act.put, List.setIfInBounds_toArray, List.set_cons_zero, List.set_cons_succ])
            | ((with_reducible refine txt_l (v := ?_) ?_ ?_); (any_goals ((with_reducible refine Reads.mk ?_ ?_); rfl; (go_simp <;> (try go_bits) <;> (repeat (first | rw [if_pos (by omega)] | rw [if_neg (by omega)])) <;> with_reducible rfl))); try simp only [Act.put, List.setIfInBounds_toArray, List.set_cons_zero, List.set_cons_succ])
            | ((with_reducible refine txt_e ?_ ?_); rfl; intro K hK; go_simp; (first | (refine hK _ _ trivial ?_) | ((first | fail); dsimp only; refine hK _ _ trivial ?_)); clear hK K; try simp only [Act.put, List.setIfInBounds_toArray, List.set_cons_zero, List.set_cons_succ]))
          refine txt_nil ?_
          go_wp2_with fail
          refine (add_any z z cy hz1 hz1 hcy _).mono ?_
          rintro e w3 ⟨s, cy', rfl, hR, rfl⟩
          go_wp2_with fail
          have q1 : Row (wr.setCell ⟨lb, k, none⟩ (.int .u64 (s : Int))).drew lb (X'.set k s ++ J) := by
            have := (hX'.out.set k s).drew
            rw [List.set_append_left _ _ (by have := hXn'.out; omega)] at this; exact this
          have q2 : Row (wr.setCell ⟨lb, k, none⟩ (.int .u64 (s : Int))).drew lt (D' ++ I0) := (hD'.out.other (a := ⟨lb, k, none⟩) n1 _).drew
          have q3 : Keeps [lb, lt] w2 (wr.setCell ⟨lb, k, none⟩ (.int .u64 (s : Int))).drew := (hK'.out.setCell (by simp) _).drew
          obtain ⟨w4, hw4⟩ : ∃ w4, w4 = (wr.setCell ⟨lb, k, none⟩ (.int .u64 (s : Int))).drew := ⟨_, rfl⟩
          rw [← hw4] at q1 q2 q3
          rw [← hw4]
          clear hw4 c1 c2 c3 hz
          have hsl := hR.lt
          have HR := Lib.hid hR; clear hR
          have d1 := q1.cell k (by have := hXn'.out; simp; omega)
          rw [List.getElem_append_left (by have := hXn'.out; simp; omega), List.getElem_set_self] at d1
          have d2 := (hM1.keeps q3 (by simp [hl, Ne.symm n2])).cell k (by have := KM2.out; simp; omega)
          rw [List.getElem_append_left (by have := KM2.out; omega), Hmk.out] at d2
          have d3 := q2.free k
          have d4 := q2.cell k (by have := hDn'.out; simp; omega)
          have Q1 := Lib.hid q1; have Q2 := Lib.hid q2; have Q3 := Lib.hid q3
          clear q1 q2 q3
          go_wp2_with fail
          refine wp_region_txt [0,0,0,0,0,1,0,0,0,1,0,2,0,0,0,0,2,0] (fun _ => True) (by kernel_rfl) (by kernel_rfl) trivial ?_
          simp only [withMarks]
          repeat (first
            | ((with_reducible refine txt_v (v := ?_) ?_ ?_); (any_goals ((with_reducible refine Yl.mk ?_ ?_); rfl; intro w hSw; (go_simp <;> (try go_bits) <;> (repeat (first | rw [if_pos (by omega)] | rw [if_neg (by omega)])) <;> with_reducible rfl))); try simp only [Act.put, List.setIfInBounds_toArray, List.set_cons_zero, List.set_cons_succ])
            | ((with_reducible refine txt_u ?_ ?_); rfl; try simp only [Act.put, List.setIfInBounds_toArray, List.set_cons_zero, List.set_cons_succ])
            | ((with_reducible refine txt_l (v := ?_) ?_ ?_); (any_goals ((with_reducible refine Reads.mk ?_ ?_); rfl; (go_simp <;> (try go_bits) <;> (repeat (first | rw [if_pos (by omega)] | rw [if_neg (by omega)])) <;> with_reducible rfl))); try simp only [Act.put, List.setIfInBounds_toArray, List.set_cons_zero, List.set_cons_succ])
            | ((with_reducible refine txt_e ?_ ?_); rfl; intro K hK; go_simp; (first | (refine hK _ _ trivial ?_) | ((first | (go_at_call 70; refine (sub_any _ _ _ hsl b3 hbo _).mono ?_; rintro e w' ⟨s2, bo', rfl, hR2, rfl⟩)); dsimp only; refine hK _ _ trivial ?_)); clear hK K; try simp only [Act.put, List.setIfInBounds_toArray, List.set_cons_zero, List.set_cons_succ]))
          refine txt_nil ?_
          have HR2 := Lib.hid hR2
          have hbo' := hR2.le
          have hs2 := hR2.lt
          have hcy' := HR.out.le
          clear hR2
          go_wp2_with fail
          go_roundg (n - (k + 1))
          case measure => omega
          case rel =>
            have hXn2 := hXn'.out
            have hDn2 := hDn'.out
            have hMn2 := KM2.out
            have hpn : (pickL nd X D).length = n := pickL_len hXn.out hDn.out
            have hxe : X[k]'(by have := hXn.out; omega) = xk := by
              rw [← Hxk.out]
              have := congrArg (fun l => l[0]?) hXd.out
              simp [List.getElem?_drop] at this
              rw [List.getElem?_eq_getElem (by omega), List.getElem?_eq_getElem (by have := hXn.out; omega)] at this
              simpa using this.symm
            have hde : D[k]'(by have := hDn.out; omega) = dk := by
              rw [← Hdk.out]
              have := congrArg (fun l => l[0]?) hDd.out
              simp [List.getElem?_drop] at this
              rw [List.getElem?_eq_getElem (by omega), List.getElem?_eq_getElem (by have := hDn.out; omega)] at this
              simpa using this.symm
            have hz : (pickL nd X D)[k]'(by omega) = z := by
              by_cases h : nd = 1
              · have e : pickL nd X D = D := by unfold pickL; rw [if_pos h]
                simp only [e]; rw [hde, Hz2.out h]
              · have e : pickL nd X D = X := by unfold pickL; rw [if_neg h]
                simp only [e]; rw [hxe, Hz3.out h]
            refine ⟨k + 1, cy', bo', X'.set k s, D'.set k s2, rfl, rfl, rfl, by go_num, by omega, hcy', hbo', Lib.hid (by simp [hXn2]), Lib.hid (by simp [hDn2]), hXl'.set _ _ hsl, hDl'.set _ _ hs2, Lib.hid (Q1.out.other (a := ⟨lt, k, none⟩) (Ne.symm n1) _).drew, Lib.hid ?_, Lib.hid ?_, Lib.hid ?_, Lib.hid ?_, Lib.hid ?_, Lib.hid (Q3.out.setCell (by simp) _).drew⟩
            · have := (Q2.out.set k s2).drew
              rw [List.set_append_left _ _ (by omega)] at this; exact this
            · have := congrArg (List.drop 1) hXd.out
              rw [List.drop_set_of_lt (by omega)]
              simpa [List.drop_drop, Nat.add_comm] using this
            · have := congrArg (List.drop 1) hDd.out
              rw [List.drop_set_of_lt (by omega)]
              simpa [List.drop_drop, Nat.add_comm] using this
            · exact sh_round (by omega) (by omega) hsum.out (by rw [hz]; exact HR.out)
            · refine sh_sub (bo := bo) (by omega) (by simp; omega) (by omega) ?_ (by rw [List.getElem_set_self, Hmk.out]; exact HR2.out)
              rw [List.take_set_of_le (by omega)]
              exact hsub.out
        · have : k = n := by omega
          subst this
          go_wp2_with fail
          refine (not_any (p := bo = 1) bo ⟨hbo, Iff.rfl⟩ _).mono ?_
          rintro e w3 ⟨r, rfl, hr, rfl⟩
          obtain ⟨r2, hor, hr2⟩ := or_ch hr (⟨hcy, Iff.rfl⟩ : Ch (cy = 1) cy)
          have HR2 := Lib.hid hr2
          have hr2l := hr2.le
          clear hr2 hr
          go_wp2_with fail
          go_roundg j
          case measure => omega
          case rel =>
            refine ⟨j, r2, _, X', D', rfl, rfl, rfl, Lib.hid (by omega), by omega, hr2l, hXn', hDn', hXl', hDl', hX', hD', Lib.hid ?_, hK'⟩
            have hXn2 := hXn'.out
            have hDn2 := hDn'.out
            have hpn : (pickL nd X D).length = k := pickL_len hXn.out hDn.out
            have hs := hsum.out
            have ht := hsub.out
            rw [List.take_of_length_le (by omega), List.take_of_length_le (by omega)] at hs
            rw [List.take_of_length_le (by omega), List.take_of_length_le (by have := KM2.out; omega), List.take_of_length_le (by omega), KM5.out] at ht
            have hmR : m < BB ^ k := by
              have := val_lt hM4
              rw [KM5.out, KM2.out] at this; exact this
            have hend := sh_end (c := val (pickL nd X D)) (b := b) (m := m) (R := BB ^ k) (X := val X') (D := val D') (by rw [hval.out]; exact Nat.mod_lt _ (by omega)) hb1 (by have := val_lt hXl'; rwa [hXn2] at this) (by have := val_lt hDl'; rwa [hDn2] at this) hmR hcy hbo hs ht
            rw [hval.out, HB.out, HY.out, sh_bit] at hend
            rw [show 64 - j = 64 - (j + 1) + 1 by omega, ← hend]
            unfold pickL
            by_cases h : ¬ bo = 1 ∨ cy = 1
            · rw [if_pos h, if_pos (HR2.out.yes h)]
            · rw [if_neg h, if_neg (by rw [HR2.out.no h]; omega)]

end Go.Proofs.Ytnfjmngchapdnaa

/- bigmod: Mod (out = x mod m). -/
namespace Go.Proofs.Ytnfjmngchapdnaa
open Go.RowKit

theorem rep_set (t z : Nat) (Y : List Nat) : (List.replicate (t + 1) 0 ++ Y).set t z = List.replicate t 0 ++ z :: Y := by
  induction t with
  | zero => rfl
  | succ t ih => rw [List.replicate_succ, List.cons_append, List.set_cons_succ, ih, List.replicate_succ, List.cons_append]
theorem zeros_of {L : List Nat} {n : Nat} (h : Lt L) (hn : L.length = n) (hv : val L = 0) : L = List.replicate n 0 :=
  val_inj h (Lt.replicate n) (by simpa using hn) (by rw [hv, val_replicate])

set_option maxRecDepth 100000 in
set_option maxHeartbeats 2000000 in
theorem nat_Mod (p lb k c v q lc kx c' u pm pn ln n m m0 : Nat) (odd : Bool) (rv : Value) (w : World) (hx : NatV w p lb k c v) (hq : NatV w q lc kx c' u) (hm : ModB w pm pn ln n m odd m0 rv)
    (hl : ln ≠ lb) (hlc : lc ≠ lb) (hpq : p ≠ q) (hpn : p ≠ pn) (hc : n ≤ c) (hc2 : c ≤ 1000) (hkx : kx ≤ 1000) (hn : 0 < n) (hbig : BB ^ (n - 1) ≤ m) (hm0 : 0 < m) :
    Calls Try.prog 54 #[.pointer (some ⟨p, 0, none⟩), .pointer (some ⟨q, 0, none⟩), .pointer (some ⟨pm, 0, none⟩)] w fun e w' =>
      e = .returned (.pointer (some ⟨p, 0, none⟩)) ∧ NatV w' p lb n c (u % m) ∧ Keeps [p, lb] w w' := by
  have hn32 := hm.nat.le
  have gq := hq.le
  have hpm := hm.ne_hdr hx
  have hpm2 := hm.ne_row hx
  have n1 : p ≠ lc := hx.ne2 hq
  have n2 : q ≠ lb := hq.ne2 hx
  have n3 : pn ≠ lb := hm.nat.ne2 hx
  have n4 : p ≠ ln := hx.ne2 hm.nat
  have KM : Hid (∀ a b, ModB a pm pn ln n m odd m0 rv → Keeps [p, lb] a b → ModB b pm pn ln n m odd m0 rv) := Lib.hid fun a b h hk => h.keeps hk (by simp [hpm, hpm2]) (by simp [Ne.symm hpn, n3]) (by simp [Ne.symm n4, hl])
  have KM1 : Hid (∀ a b, ModB a pm pn ln n m odd m0 rv → Keeps [lb] a b → ModB b pm pn ln n m odd m0 rv) := Lib.hid fun a b h hk => h.keeps hk (by simp [hpm2]) (by simp [n3]) (by simp [hl])
  go_enter Try.func54, Try.ntmps54
  go_wp2_with fail
  refine (nat_resetFor p lb k c v pm pn ln n m m0 odd rv _ hx hm hc hc2).mono ?_
  rintro e w1 ⟨rfl, hx1, hk1⟩
  have hm1 := KM.out _ _ hm hk1
  have hq1 := hq.keeps hk1 (by simp [Ne.symm hpq, n2]) (by simp [Ne.symm n1, hlc])
  have cq := hq1.hdr.cell
  have cm := hm1.hdr.c0
  have cn := hm1.nat.hdr.cell
  have HP := Lib.hid hx1.hdr; have HQ := Lib.hid hq1.hdr; have HM := Lib.hid hm1
  have hpne := hx1.ne
  obtain ⟨_, L, J, hL1, hL2, hL3, hL4, hL5⟩ := hx1
  obtain ⟨_, Lx, Jx, hx1, hx2, hx3, hx4, hx5⟩ := hq1
  obtain rfl := zeros_of hL4 hL2 hL5
  have KX2 := Lib.hid hx2; have KX3 := Lib.hid hx3; have KX5 := Lib.hid hx5; have KL3 := Lib.hid hL3
  have HK1 := Lib.hid hk1
  clear hx hq hm hm1 hx2 hx3 hx5 hL2 hL3 hL5 hk1
  obtain ⟨T0, d, hT, hcs⟩ : ∃ T0 d, T0 + d = kx ∧ ((kx + 1 < n ∧ T0 = kx) ∨ (¬ kx + 1 < n ∧ T0 + 1 = n)) := by
    by_cases h : kx + 1 < n
    · exact ⟨kx, 0, by omega, .inl ⟨h, rfl⟩⟩
    · exact ⟨n - 1, kx - (n - 1), by omega, .inr ⟨h, by omega⟩⟩
  have hTn : T0 < n := by omega
  have HB := Lib.hid hbig
  clear hbig
  rcases hcs with ⟨h1, h2⟩ | ⟨h1, h2⟩
  · have d1 : decide ((kx : Int) - 1 < (n : Int) - 2) = true := by simp; omega
    go_wp2_with fail
    clear d1 h1
    have H2 := Lib.hid h2
    clear h2
    clear cq cm cn
    go_loopg [7, 9] T0 (fun gn iv jv wx => ∃ (t : Nat) (I Jv : Int), gn = t ∧ iv = .int .i64 I ∧ jv = .int .i64 Jv ∧ Hid (I = ((d + t : Nat) : Int) - 1) ∧ Hid (Jv = (t : Int) - 1) ∧ t ≤ T0 ∧ Hid (Row wx lb ((List.replicate t 0 ++ (Lx.drop (d + t) ++ List.replicate (n - T0) 0)) ++ J)) ∧ Hid (Keeps [lb] w1 wx))
    case atStart =>
      refine ⟨T0, _, _, rfl, rfl, rfl, Lib.hid (by omega), Lib.hid (by have := H2.out; omega), Nat.le_refl _, Lib.hid ?_, Lib.hid (Keeps.refl _ _)⟩
      rw [List.drop_of_length_le (by have := KX2.out; omega), List.nil_append, List.replicate_append_replicate, show T0 + (n - T0) = n by omega]
      exact hL1
    case round =>
      obtain ⟨t, I, Jv, hgt, rfl, rfl, hI, hJv, ht, hR, hK⟩ := hrel
      cases t with
      | zero =>
        have i1 : decide (0 ≤ Jv) = false := by have := hJv.out; simp; omega
        go_wp2_with fail
        have hval : Hid (val (Lx.drop d) = val (Lx.drop d) % m) := by
          refine Lib.hid (Nat.mod_eq_of_lt ?_).symm
          have h1 := val_lt (hx4.drop d)
          have h2 : (Lx.drop d).length = T0 := by have := KX2.out; simp; omega
          rw [h2] at h1
          exact Nat.lt_of_lt_of_le h1 (Nat.le_trans (Nat.pow_le_pow_right BB_pos (by omega)) HB.out)
        have hnat : Hid (NatV wr p lb n c (val (Lx.drop d) % m)) := by
          refine Lib.hid ⟨HP.out.keeps hK.out (by simp [hpne]), Lx.drop d ++ List.replicate (n - T0) 0, J, by simpa using hR.out, by have := KX2.out; simp; omega, by have := KL3.out; have := KX2.out; simp at *; omega, (hx4.drop d).append (Lt.replicate _), ?_⟩
          rw [val_append, val_replicate, Nat.mul_zero, Nat.add_zero]; exact hval.out
        have hK0 : Hid (Keeps [p, lb] w1 wr) := Lib.hid (hK.out.mono (by simp))
        clear hR hK hval
        go_loopg [7] d (fun gn iv wx => ∃ (t : Nat) (I : Int), gn = t ∧ iv = .int .i64 I ∧ Hid (I = (t : Int) - 1) ∧ t ≤ d ∧ Hid (NatV wx p lb n c (val (Lx.drop t) % m)) ∧ Hid (Keeps [p, lb] w1 wx))
        case atStart => exact ⟨d, I, rfl, rfl, Lib.hid (by have := hI.out; omega), Nat.le_refl _, hnat, hK0⟩
        case round =>
          clear hnat hK0 hI
          obtain ⟨t, I, hgt, rfl, hI, ht, hN, hK⟩ := hrel
          cases t with
          | zero =>
            have i2 : decide (0 ≤ I) = false := by have := hI.out; simp; omega
            go_wp2_with fail
            go_ret
            have e1 : val (Lx.drop 0) = u := by rw [List.drop_zero]; exact KX5.out
            refine ⟨rfl, ?_, HK1.out.trans1 hK.out⟩
            rw [← e1]; exact hN.out
          | succ t =>
            obtain rfl : I = (t : Int) := by have := hI.out; omega
            have hmw := KM.out _ _ HM.out hK.out
            have a1 := (HQ.out.keeps hK.out (by simp [Ne.symm hpq, n2])).cell
            have a2 := (Row.keeps hx1 hK.out (by simp [Ne.symm n1, hlc])).cell t (by have := KX2.out; simp; omega)
            rw [List.getElem_append_left (by have := KX2.out; omega)] at a2
            have b1 := hx4.get t (by have := KX2.out; omega)
            obtain ⟨z, hz⟩ : ∃ x, Lx[t]'(by have := KX2.out; omega) = x := ⟨_, rfl⟩
            rw [hz] at a2 b1
            have HZ := Lib.hid hz; clear hz
            have HMW := Lib.hid hmw; clear hmw
            have a3 : t < kx := by omega
            go_wp2_with fail
            refine (nat_shiftIn p lb n c (val (Lx.drop (t + 1)) % m) z pm pn ln m m0 odd rv _ hN.out HMW.out hl hc2 (Nat.mod_lt _ hm0) b1).mono ?_
            rintro e w2 ⟨rfl, hN2, hk2⟩
            have HN2 := Lib.hid hN2
            have HK2 := Lib.hid (hK.out.trans1 (hk2.mono (T := [p, lb]) (by simp)))
            clear hN2 hk2 hN hK
            go_wp2_with fail
            go_roundg t
            case measure => omega
            case rel =>
              refine ⟨t, _, rfl, rfl, Lib.hid (by omega), by omega, Lib.hid ?_, HK2⟩
              have e1 : Lx.drop t = z :: Lx.drop (t + 1) := by rw [← HZ.out]; exact List.drop_eq_getElem_cons (by have := KX2.out; omega)
              have e2 : val (Lx.drop t) % m = (val (Lx.drop (t + 1)) % m * BB + z) % m := by
                rw [e1, val, Nat.add_mod (_ * BB), Nat.mul_mod, Nat.mod_mod, ← Nat.mul_mod, ← Nat.add_mod, Nat.mul_comm, Nat.add_comm]
              rw [e2]; exact HN2.out
      | succ t =>
        obtain rfl : Jv = (t : Int) := by have := hJv.out; omega
        obtain rfl : I = ((d + t : Nat) : Int) := by have := hI.out; omega
        have a1 := (HQ.out.keeps hK.out (by simp [n2])).cell
        have a0 := (HP.out.keeps hK.out (by simp [hpne])).cell
        have a2 := (Row.keeps hx1 hK.out (by simp [hlc])).cell (d + t) (by have := KX2.out; simp; omega)
        rw [List.getElem_append_left (by have := KX2.out; omega)] at a2
        obtain ⟨z, hz⟩ : ∃ x, Lx[d + t]'(by have := KX2.out; omega) = x := ⟨_, rfl⟩
        rw [hz] at a2
        have a3 := hR.out.free t
        have a4 := hR.out.cell t (by simp; omega)
        have a5 : d + t < kx := by omega
        have a6 : t < n := by omega
        have HZ := Lib.hid hz; clear hz
        go_wp2_with fail
        refine wp_region_txt [0,0,0,1,0,0,0,0,1,0,0,1,0,2] (fun _ => True) (by kernel_rfl) (by kernel_rfl) trivial ?_
        simp only [withMarks]
        repeat (first
          | ((with_reducible refine txt_v (v := ?_) ?_ ?_); (any_goals ((with_reducible refine Yl.mk ?_ ?_); rfl; intro w hSw; (go_simp <;> (try go_bits) <;> (repeat (first | rw [if_pos (by omega)] | rw [if_neg (by omega)])) <;> with_reducible rfl))); try simp only [Act.put, List.setIfInBounds_toArray, List.set_cons_zero, List.set_cons_succ])
          | ((with_reducible refine txt_u ?_ ?_); rfl; try simp only [Act.put, List.setIfInBounds_toArray, List.set_cons_zero, List.set_cons_succ])
          | ((with_reducible refine txt_l (v := ?_) ?_ ?_); (any_goals ((with_reducible refine Reads.mk ?_ ?_); rfl; (go_simp <;> (try go_bits) <;> (repeat (first | rw [if_pos (by omega)] | rw [if_neg (by omega)])) <;> with_reducible rfl))); try simp only [Act.put, List.setIfInBounds_toArray, List.set_cons_zero, List.set_cons_succ])
          | ((with_reducible refine txt_e ?_ ?_); rfl; intro K hK; go_simp; (first | (refine hK _ _ trivial ?_) | ((first | fail); dsimp only; refine hK _ _ trivial ?_)); clear hK K; try simp only [Act.put, List.setIfInBounds_toArray, List.set_cons_zero, List.set_cons_succ]))
        refine txt_nil ?_
        go_wp2_with fail
        go_roundg t
        case measure => omega
        case rel =>
          refine ⟨t, _, _, rfl, rfl, rfl, Lib.hid (by omega), Lib.hid (by omega), by omega, Lib.hid ?_, Lib.hid (hK.out.setCell (by simp) _).drew⟩
          have e1 : Lx.drop (d + t) = z :: Lx.drop (d + t + 1) := by rw [← HZ.out]; exact List.drop_eq_getElem_cons (by have := KX2.out; omega)
          have := (hR.out.set t z).drew
          rw [List.set_append_left _ _ (by simp; omega), rep_set] at this
          rw [e1]; exact this
  · have d1 : decide ((kx : Int) - 1 < (n : Int) - 2) = false := by simp; omega
    go_wp2_with fail
    clear d1 h1
    have H2 := Lib.hid h2
    clear h2
    clear cq cm cn
    go_loopg [7, 9] T0 (fun gn iv jv wx => ∃ (t : Nat) (I Jv : Int), gn = t ∧ iv = .int .i64 I ∧ jv = .int .i64 Jv ∧ Hid (I = ((d + t : Nat) : Int) - 1) ∧ Hid (Jv = (t : Int) - 1) ∧ t ≤ T0 ∧ Hid (Row wx lb ((List.replicate t 0 ++ (Lx.drop (d + t) ++ List.replicate (n - T0) 0)) ++ J)) ∧ Hid (Keeps [lb] w1 wx))
    case atStart =>
      refine ⟨T0, _, _, rfl, rfl, rfl, Lib.hid (by omega), Lib.hid (by have := H2.out; omega), Nat.le_refl _, Lib.hid ?_, Lib.hid (Keeps.refl _ _)⟩
      rw [List.drop_of_length_le (by have := KX2.out; omega), List.nil_append, List.replicate_append_replicate, show T0 + (n - T0) = n by omega]
      exact hL1
    case round =>
      obtain ⟨t, I, Jv, hgt, rfl, rfl, hI, hJv, ht, hR, hK⟩ := hrel
      cases t with
      | zero =>
        have i1 : decide (0 ≤ Jv) = false := by have := hJv.out; simp; omega
        go_wp2_with fail
        have hval : Hid (val (Lx.drop d) = val (Lx.drop d) % m) := by
          refine Lib.hid (Nat.mod_eq_of_lt ?_).symm
          have h1 := val_lt (hx4.drop d)
          have h2 : (Lx.drop d).length = T0 := by have := KX2.out; simp; omega
          rw [h2] at h1
          exact Nat.lt_of_lt_of_le h1 (Nat.le_trans (Nat.pow_le_pow_right BB_pos (by omega)) HB.out)
        have hnat : Hid (NatV wr p lb n c (val (Lx.drop d) % m)) := by
          refine Lib.hid ⟨HP.out.keeps hK.out (by simp [hpne]), Lx.drop d ++ List.replicate (n - T0) 0, J, by simpa using hR.out, by have := KX2.out; simp; omega, by have := KL3.out; have := KX2.out; simp at *; omega, (hx4.drop d).append (Lt.replicate _), ?_⟩
          rw [val_append, val_replicate, Nat.mul_zero, Nat.add_zero]; exact hval.out
        have hK0 : Hid (Keeps [p, lb] w1 wr) := Lib.hid (hK.out.mono (by simp))
        clear hR hK hval
        go_loopg [7] d (fun gn iv wx => ∃ (t : Nat) (I : Int), gn = t ∧ iv = .int .i64 I ∧ Hid (I = (t : Int) - 1) ∧ t ≤ d ∧ Hid (NatV wx p lb n c (val (Lx.drop t) % m)) ∧ Hid (Keeps [p, lb] w1 wx))
        case atStart => exact ⟨d, I, rfl, rfl, Lib.hid (by have := hI.out; omega), Nat.le_refl _, hnat, hK0⟩
        case round =>
          clear hnat hK0 hI
          obtain ⟨t, I, hgt, rfl, hI, ht, hN, hK⟩ := hrel
          cases t with
          | zero =>
            have i2 : decide (0 ≤ I) = false := by have := hI.out; simp; omega
            go_wp2_with fail
            go_ret
            have e1 : val (Lx.drop 0) = u := by rw [List.drop_zero]; exact KX5.out
            refine ⟨rfl, ?_, HK1.out.trans1 hK.out⟩
            rw [← e1]; exact hN.out
          | succ t =>
            obtain rfl : I = (t : Int) := by have := hI.out; omega
            have hmw := KM.out _ _ HM.out hK.out
            have a1 := (HQ.out.keeps hK.out (by simp [Ne.symm hpq, n2])).cell
            have a2 := (Row.keeps hx1 hK.out (by simp [Ne.symm n1, hlc])).cell t (by have := KX2.out; simp; omega)
            rw [List.getElem_append_left (by have := KX2.out; omega)] at a2
            have b1 := hx4.get t (by have := KX2.out; omega)
            obtain ⟨z, hz⟩ : ∃ x, Lx[t]'(by have := KX2.out; omega) = x := ⟨_, rfl⟩
            rw [hz] at a2 b1
            have HZ := Lib.hid hz; clear hz
            have HMW := Lib.hid hmw; clear hmw
            have a3 : t < kx := by omega
            go_wp2_with fail
            refine (nat_shiftIn p lb n c (val (Lx.drop (t + 1)) % m) z pm pn ln m m0 odd rv _ hN.out HMW.out hl hc2 (Nat.mod_lt _ hm0) b1).mono ?_
            rintro e w2 ⟨rfl, hN2, hk2⟩
            have HN2 := Lib.hid hN2
            have HK2 := Lib.hid (hK.out.trans1 (hk2.mono (T := [p, lb]) (by simp)))
            clear hN2 hk2 hN hK
            go_wp2_with fail
            go_roundg t
            case measure => omega
            case rel =>
              refine ⟨t, _, rfl, rfl, Lib.hid (by omega), by omega, Lib.hid ?_, HK2⟩
              have e1 : Lx.drop t = z :: Lx.drop (t + 1) := by rw [← HZ.out]; exact List.drop_eq_getElem_cons (by have := KX2.out; omega)
              have e2 : val (Lx.drop t) % m = (val (Lx.drop (t + 1)) % m * BB + z) % m := by
                rw [e1, val, Nat.add_mod (_ * BB), Nat.mul_mod, Nat.mod_mod, ← Nat.mul_mod, ← Nat.add_mod, Nat.mul_comm, Nat.add_comm]
              rw [e2]; exact HN2.out
      | succ t =>
        obtain rfl : Jv = (t : Int) := by have := hJv.out; omega
        obtain rfl : I = ((d + t : Nat) : Int) := by have := hI.out; omega
        have a1 := (HQ.out.keeps hK.out (by simp [n2])).cell
        have a0 := (HP.out.keeps hK.out (by simp [hpne])).cell
        have a2 := (Row.keeps hx1 hK.out (by simp [hlc])).cell (d + t) (by have := KX2.out; simp; omega)
        rw [List.getElem_append_left (by have := KX2.out; omega)] at a2
        obtain ⟨z, hz⟩ : ∃ x, Lx[d + t]'(by have := KX2.out; omega) = x := ⟨_, rfl⟩
        rw [hz] at a2
        have a3 := hR.out.free t
        have a4 := hR.out.cell t (by simp; omega)
        have a5 : d + t < kx := by omega
        have a6 : t < n := by omega
        have HZ := Lib.hid hz; clear hz
        go_wp2_with fail
        refine wp_region_txt [0,0,0,1,0,0,0,0,1,0,0,1,0,2] (fun _ => True) (by kernel_rfl) (by kernel_rfl) trivial ?_
        simp only [withMarks]
        repeat (first
          | ((with_reducible refine txt_v (v := ?_) ?_ ?_); (any_goals ((with_reducible refine Yl.mk ?_ ?_); rfl; intro w hSw; (go_simp <;> (try go_bits) <;> (repeat (first | rw [if_pos (by omega)] | rw [if_neg (by omega)])) <;> with_reducible rfl))); try simp only [Act.put, List.setIfInBounds_toArray, List.set_cons_zero, List.set_cons_succ])
          | ((with_reducible refine txt_u ?_ ?_); rfl; try simp only [Act.put, List.setIfInBounds_toArray, List.set_cons_zero, List.set_cons_succ])
          | ((with_reducible refine txt_l (v := ?_) ?_ ?_); (any_goals ((with_reducible refine Reads.mk ?_ ?_); rfl; (go_simp <;> (try go_bits) <;> (repeat (first | rw [if_pos (by omega)] | rw [if_neg (by omega)])) <;> with_reducible rfl))); try simp only [Act.put, List.setIfInBounds_toArray, List.set_cons_zero, List.set_cons_succ])
          | ((with_reducible refine txt_e ?_ ?_); rfl; intro K hK; go_simp; (first | (refine hK _ _ trivial ?_) | ((first | fail); dsimp only; refine hK _ _ trivial ?_)); clear hK K; try simp only [Act.put, List.setIfInBounds_toArray, List.set_cons_zero, List.set_cons_succ]))
        refine txt_nil ?_
        go_wp2_with fail
        go_roundg t
        case measure => omega
        case rel =>
          refine ⟨t, _, _, rfl, rfl, rfl, Lib.hid (by omega), Lib.hid (by omega), by omega, Lib.hid ?_, Lib.hid (hK.out.setCell (by simp) _).drew⟩
          have e1 : Lx.drop (d + t) = z :: Lx.drop (d + t + 1) := by rw [← HZ.out]; exact List.drop_eq_getElem_cons (by have := KX2.out; omega)
          have := (hR.out.set t z).drew
          rw [List.set_append_left _ _ (by simp; omega), rep_set] at this
          rw [e1]; exact this

end Go.Proofs.Ytnfjmngchapdnaa
