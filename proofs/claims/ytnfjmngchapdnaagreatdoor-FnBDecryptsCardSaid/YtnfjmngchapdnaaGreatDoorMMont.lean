import Derived.Test.YtnfjmngchapdnaaGreatDoorMMod2
/- bigmod: montgomeryMul. -/
namespace Go.Proofs.YtnfjmngchapdnaaGreatDoor
open Go.RowKit

/-- One round of the word-by-word product. -/
theorem mont_step {Zv c P Q a β K m d c1 c2 Y s c' Z1v Z2v Ztv : Nat} {P1 : Nat} (hP : P = BB * P1) (hS : (Zv + c * P) * Q = a * β + K * m) (h1 : Z1v + c1 * P = Zv + a * d) (h2 : Z2v + c2 * P = Z1v + m * Y)
    (h3 : Z2v = BB * Ztv) (h4 : s + c' * BB = c1 + c2 + c) : (Ztv + P1 * s + c' * P) * (BB * Q) = a * (β + Q * d) + (K + Y * Q) * m := by
  have e1 : (Ztv + P1 * s + c' * P) * BB = Zv + c * P + a * d + m * Y := by
    have f1 : (Ztv + P1 * s + c' * P) * BB = BB * Ztv + P * (s + c' * BB) := by
      rw [Nat.mul_add, hP, Nat.add_mul, Nat.add_mul]
      rw [Nat.mul_comm Ztv BB, Nat.mul_right_comm P1 s BB, Nat.mul_comm P1 BB]
      rw [Nat.mul_comm c' (BB * P1), Nat.mul_assoc (BB * P1) c' BB]
      omega
    rw [f1, h4, ← h3]
    have f2 : P * (c1 + c2 + c) = c1 * P + c2 * P + c * P := by
      rw [Nat.mul_add, Nat.mul_add, Nat.mul_comm P c1, Nat.mul_comm P c2, Nat.mul_comm P c]
    rw [f2]
    omega
  rw [← Nat.mul_assoc, e1, Nat.add_mul, Nat.add_mul, hS, Nat.mul_add, Nat.add_mul]
  have g1 : a * d * Q = a * (Q * d) := by rw [Nat.mul_assoc, Nat.mul_comm d Q]
  have g2 : m * Y * Q = Y * Q * m := by rw [Nat.mul_comm m Y, Nat.mul_right_comm]
  rw [g1, g2]
  omega

theorem mont_low {z1 Z1t m Y m0 c2 P1 Z2v z0 Z2t : Nat} (hinv : (m0 * m + 1) % BB = 0) (hY : Y = (z1 * m0) % BB) (h : Z2v + c2 * (BB * P1) = (z1 + BB * Z1t) + m * Y) (hz : Z2v = z0 + BB * Z2t) (hz0 : z0 < BB) : z0 = 0 := by
  have e1 : (z0 + BB * (Z2t + c2 * P1)) = z1 + m * Y + BB * Z1t := by
    rw [Nat.mul_add]
    have : BB * (c2 * P1) = c2 * (BB * P1) := by rw [← Nat.mul_assoc, Nat.mul_comm BB c2, Nat.mul_assoc]
    omega
  have e2 := congrArg (· % BB) e1
  simp only [Nat.add_mul_mod_self_left] at e2
  rw [Nat.mod_eq_of_lt hz0] at e2
  rw [e2, hY]
  have e3 : (z1 + m * (z1 * m0 % BB)) % BB = (z1 * (m0 * m + 1)) % BB := by
    rw [Nat.add_mod, Nat.mul_mod m, Nat.mod_mod, ← Nat.mul_mod m, ← Nat.add_mod]
    congr 1
    rw [Nat.mul_add, Nat.mul_one, Nat.mul_comm m (z1 * m0), Nat.mul_assoc]
    omega
  rw [e3, Nat.mul_mod, hinv]
  simp

theorem mont_end {S P a b K m : Nat} (hS : S * P = a * b + K * m) (ha : a * b ≤ m * P ∧ 0 < m) (hK : K < P) : S < 2 * m ∧ (S * P) % m = (a * b) % m := by
  refine ⟨?_, by rw [hS, Nat.add_mul_mod_self_right]⟩
  have h1 := ha.1
  have h0 := ha.2
  have h2 : (K + 1) * m ≤ P * m := Nat.mul_le_mul_right _ hK
  rw [Nat.add_mul, Nat.mul_comm P m] at h2
  have h3 : S * P < (2 * m) * P := by rw [Nat.mul_assoc]; omega
  exact Nat.lt_of_mul_lt_mul_right h3

theorem mont_fin {S v v' c m P : Nat} (hS : S = v + c * P) (h2m : S < 2 * m) (hmP : m < P) (hc : c ≤ 1) (h1 : m ≤ v → v' + m = v) (h2 : v < m → c = 1 → v' + m = v + P) (h3 : v < m → ¬ c = 1 → v' = v) :
    v' < m ∧ ∀ Q r, (S * Q) % m = r → (v' * Q) % m = r := by
  have c01 : c = 0 ∨ c = 1 := by omega
  have key : S = v' ∨ S = v' + m := by
    rcases c01 with rfl | rfl
    · simp only [Nat.zero_mul, Nat.add_zero] at hS
      by_cases h : m ≤ v
      · have := h1 h; right; omega
      · have := h3 (by omega) (by omega); left; omega
    · simp only [Nat.one_mul] at hS
      have := h2 (by omega) rfl; right; omega
  have hlt : v' < m := by
    rcases c01 with rfl | rfl
    · simp only [Nat.zero_mul, Nat.add_zero] at hS
      by_cases h : m ≤ v
      · have := h1 h; omega
      · have := h3 (by omega) (by omega); omega
    · simp only [Nat.one_mul] at hS
      have := h2 (by omega) rfl; omega
  refine ⟨hlt, fun Q r hr => ?_⟩
  rcases key with h | h
  · rw [← h]; exact hr
  · rw [← hr, h, Nat.add_mul, Nat.add_mul_mod_self_left]

theorem pow_pred {n : Nat} (hn : 0 < n) : BB ^ n = BB * BB ^ (n - 1) := by
  rw [← Nat.pow_succ']; congr 1; omega
theorem val_cons (x : Nat) (L : List Nat) : val (x :: L) = x + BB * val L := rfl
theorem mont_lists {A Zt C : List Nat} {z0 s : Nat} : (A ++ (z0 :: Zt ++ (0 :: C))).set (A.length + (Zt.length + 1)) s = (A ++ [z0]) ++ ((Zt ++ [s]) ++ C) := by
  rw [List.set_append_right _ _ (by omega), show A.length + (Zt.length + 1) - A.length = Zt.length + 1 by omega]
  rw [List.set_append_right _ _ (by simp)]
  simp


set_option maxRecDepth 100000 in
set_option maxHeartbeats 4000000 in
theorem mont_default (px lx kx cx vx pa la ca a pb lb cb b pm pn ln n m m0 : Nat) (odd : Bool) (rv : Value) (w : World) (hx : NatV w px lx kx cx vx) (ha : NatV w pa la n ca a) (hb : NatV w pb lb n cb b)
    (hm : ModB w pm pn ln n m odd m0 rv) (hinv : (m0 * m + 1) % BB = 0) (hl : ln ≠ lx) (hcx : n ≤ cx) (hcx' : cx ≤ 1000) (ham : a * b ≤ m * BB ^ n ∧ 0 < m) (h16 : n ≠ 16) (h24 : n ≠ 24) (hn31 : n ≤ 31) :
    Calls Tryz.prog 94 #[.pointer (some ⟨px, 0, none⟩), .pointer (some ⟨pa, 0, none⟩), .pointer (some ⟨pb, 0, none⟩), .pointer (some ⟨pm, 0, none⟩)] w fun e w' =>
      e = .returned (.pointer (some ⟨px, 0, none⟩)) ∧ ∃ v', v' < m ∧ (v' * BB ^ n) % m = (a * b) % m ∧ NatV w' px lx n cx v' ∧ Keeps [px, lx] w w' := by
  have hn0 : 0 < n := hm.npos (by omega)
  have hnca := ha.le
  have hncb := hb.le
  have hmP := hm.nat.lt
  have hbP := hb.lt
  have n1 := hm.ne_row hx
  have n2 := hm.nat.ne2 hx
  have n3 := hm.ne_hdr hx
  have n4 := hx.ne2 hm.nat
  have n5 := hm.nat.ne_p hx hl
  have c0 := hm.hdr.c0
  have cn := hm.nat.hdr.cell
  have caa := ha.hdr.cell
  have cbb := hb.hdr.cell
  obtain ⟨w1, hmk, hr1, hk1, hs1⟩ := run_make_words w 0 64 (by omega) (by omega)
  have HK := Lib.hid hmk; have HS1 := Lib.hid hs1
  have hmk' : (Instr.makeSlice 110 (.int .i64 0) (.int .i64 64)).run Tryz.prog w = .ok (.slice (some ⟨w.heap.size, 0, none⟩) 0 64) w1 := hmk
  have hx1 := hx.kept hk1
  have ha1 := ha.kept hk1
  have hb1 := hb.kept hk1
  have hm1 := hm.kept hk1
  have ot : w.heap.size ≤ w.heap.size := Nat.le_refl _
  have oa := ha.old ot; have ob := hb.old ot; have om := hm.old ot; have ox := hx.old ot
  clear hmk hs1
  obtain ⟨tb, htb⟩ : ∃ tb, tb = w.heap.size := ⟨_, rfl⟩
  rw [← htb] at hmk' hr1 oa ob om ox
  have HTB := Lib.hid htb
  clear htb ot
  have z1 : ((n : Int) == 16) = false := by simp; omega
  have z2 : ((n : Int) == 24) = false := by simp; omega
  have z3 : ((n : Int) == 32) = false := by simp; omega
  have z4 : n * 2 ≤ 64 := by omega
  have z5 : ¬ (64 : Int) < (n : Int) * 2 := by omega
  go_enter Tryz.func94, Tryz.ntmps94
  go_wp2
  clear z1 z2 z3
  clear hmk' c0 cn caa cbb
  obtain ⟨aL, aJ, ra1, ra2, ra3, ra4, ra5⟩ := ha1.row
  obtain ⟨bL, bJ, rb1, rb2, rb3, rb4, rb5⟩ := hb1.row
  obtain ⟨mL, mJ, rm1, rm2, rm3, rm4, rm5⟩ := hm1.nat.row
  have Ka2 := Lib.hid ra2; have Ka3 := Lib.hid ra3; have Ka5 := Lib.hid ra5; have Kb2 := Lib.hid rb2; have Kb3 := Lib.hid rb3; have Kb5 := Lib.hid rb5; have Km2 := Lib.hid rm2; have Km3 := Lib.hid rm3; have Km5 := Lib.hid rm5
  have Hinv := Lib.hid hinv
  clear ra2 ra3 ra5 rb2 rb3 rb5 rm2 rm3 rm5 hinv
  go_loopw [14, 15] (fun cc ii wr => ∃ (i c : Nat) (A Z : List Nat), ii = .int .i64 i ∧ cc = .int .u64 c ∧ i ≤ n ∧ c ≤ 1 ∧ Hid (A.length = i) ∧ Hid (Z.length = n) ∧ Lt Z ∧ Row wr tb (A ++ (Z ++ List.replicate (64 - n - i) 0)) ∧
    Hid (∃ K, (val Z + c * BB ^ n) * BB ^ i = a * val (bL.take i) + K * m ∧ K < BB ^ i) ∧ Keeps [tb] w1 wr) (fun _ ii _ => n - (intOf ii).toNat)
  case atStart => exact ⟨0, 0, [], List.replicate n 0, rfl, rfl, by omega, by omega, rfl, by show _ = _; simp, Lt.replicate _, by rw [← List.append_assoc, List.nil_append, List.replicate_append_replicate]; simpa [show n + (64 - n) = 64 by omega] using hr1, ⟨0, by simp [val_replicate, val], by simp⟩, Keeps.refl _ _⟩
  case round =>
    obtain ⟨i, c, A, Z, rfl, rfl, hi, hc, hAn, hZn, hZl, hT, hinvt, hkp⟩ := hrel
    have ka := fun (wq : World) (hk : Keeps [tb] w1 wq) => ra1.keeps hk (by simpa using oa.2)
    have kb := fun (wq : World) (hk : Keeps [tb] w1 wq) => rb1.keeps hk (by simpa using ob.2)
    have km := fun (wq : World) (hk : Keeps [tb] w1 wq) => hm1.keeps hk (by simpa using om.1) (by simpa using om.2.1) (by simpa using om.2.2)
    have krm := fun (wq : World) (hk : Keeps [tb] w1 wq) => rm1.keeps hk (by simpa using om.2.2)
    have KA := Lib.hid ka; have KB := Lib.hid kb; have KM := Lib.hid km; have KRM := Lib.hid krm
    clear ka kb km krm
    by_cases hlt : i < n
    · have hAn' := hAn.out
      have hZn' := hZn.out
      have e0 : List.replicate (64 - n - i) 0 = 0 :: List.replicate (64 - n - (i + 1)) 0 := by
        rw [show 64 - n - i = (64 - n - (i + 1)) + 1 by omega]; rfl
      rw [e0] at hT
      have cT := hT.cell (n + i) (by simp; omega)
      rw [List.getElem_append_right (by omega), List.getElem_append_right (by omega)] at cT
      have e1 : n + i - A.length - Z.length = 0 := by omega
      simp only [e1, List.getElem_cons_zero] at cT
      have cb1 := (KB.out _ hkp).cell i (by have := Kb2.out; simp; omega)
      rw [List.getElem_append_left (by have := Kb2.out; omega)] at cb1
      have bb1 := rb4.get i (by have := Kb2.out; omega)
      have hts := val_take_succ bL i (by have := Kb2.out; omega)
      obtain ⟨d, hd⟩ : ∃ x, bL[i]'(by have := Kb2.out; omega) = x := ⟨_, rfl⟩
      rw [hd] at cb1 bb1 hts
      have Hts := Lib.hid hts; have He0 := Lib.hid e0
      clear e0 e1 hd hts
      have i1 : (i : Int) < n := by omega
      have i2 : ¬ (64 = i) := by omega
      have i2' : ¬ ((64 : Int) = (i : Int)) := by omega
      have i3 : i + n - i = n := by omega
      have i3' : n + i - i = n := by omega
      have i4 : (i : Int) ≤ (i : Int) + n := by omega
      have i4' : (i : Int) ≤ n + (i : Int) := by omega
      have i5 : i + n ≤ 64 := by omega
      have i5' : n + i ≤ 64 := by omega
      have i6 : (0 : Int) ≤ (i : Int) := by omega
      go_wp2_with fail
      refine (addMulVVW_any tb i n _ la _ d A Z (0 :: List.replicate (64 - n - (i + 1)) 0) aL aJ _ hT hAn' hZn' hZl (KA.out _ hkp) Ka2.out ra4 (Ne.symm oa.2) bb1 hn0 (by omega)).mono ?_
      rintro e w2 ⟨c1, rfl, hc1, Z1, hZ1n, hZ1l, hT1, hv1, hk2⟩
      have hkp2 := hkp.trans1 hk2
      have Hv1 := Lib.hid hv1; clear hv1 cb1 cT
      cases Z1 with
      | nil => exact absurd hZ1n (by simp <;> omega)
      | cons z1 Z1t =>
        have cz1 := hT1.cell i (by simp; omega)
        rw [List.getElem_append_right (by omega)] at cz1
        have e2 : i - A.length = 0 := by omega
        simp only [e2, List.cons_append, List.getElem_cons_zero] at cz1
        have hz1 := hZ1l.head
        have cm2 := (KM.out _ hkp2).hdr.c2
        have hYw : IntKind.u64.wrap ((z1 : Int) * (m0 : Int)) = (((z1 * m0) % BB : Nat) : Int) := by
          rw [IntKind.wrap_u64]; unfold BB; omega
        obtain ⟨Y, hY⟩ : ∃ Y, Y = (z1 * m0) % BB := ⟨_, rfl⟩
        have hYl : Y < BB := by rw [hY]; exact Nat.mod_lt _ BB_pos
        rw [← hY] at hYw
        have HY := Lib.hid hY
        clear e2 hY
        go_wp2_with fail
        refine wp_region_txt [0,0,0,1,0,0,0,1,0,0] (fun _ => True) (by kernel_rfl) (by kernel_rfl) trivial ?_
        simp only [withMarks]
        repeat (first
          | ((with_reducible refine txt_v (v := ?_) ?_ ?_); (any_goals ((with_reducible refine Yl.mk ?_ ?_); rfl; intro w hSw; (go_simp <;> (try go_bits) <;> (repeat (first | rw [if_pos (by omega)] | rw [if_neg (by omega)])) <;> with_reducible rfl))); try simp only [Act.put, List.setIfInBounds_toArray, List.set_cons_zero, List.set_cons_succ])
          | ((with_reducible refine txt_u ?_ ?_); rfl; try simp only [Act.put, List.setIfInBounds_toArray, List.set_cons_zero, List.set_cons_succ])
          | ((with_reducible refine txt_l (v := ?_) ?_ ?_); (any_goals ((with_reducible refine Reads.mk ?_ ?_); rfl; (go_simp <;> (try go_bits) <;> (repeat (first | rw [if_pos (by omega)] | rw [if_neg (by omega)])) <;> with_reducible rfl))); try simp only [Act.put, List.setIfInBounds_toArray, List.set_cons_zero, List.set_cons_succ])
          | ((with_reducible refine txt_e ?_ ?_); rfl; intro K hK; go_simp; (first | (refine hK _ _ trivial ?_) | ((first | fail); dsimp only; refine hK _ _ trivial ?_)); clear hK K; try simp only [Act.put, List.setIfInBounds_toArray, List.set_cons_zero, List.set_cons_succ]))
        refine txt_nil ?_
        go_wp2_with fail
        refine (addMulVVW_any tb i n _ ln _ Y A (z1 :: Z1t) (0 :: List.replicate (64 - n - (i + 1)) 0) mL mJ _ hT1.drew hAn' hZ1n hZ1l (KRM.out _ hkp2.drew) Km2.out rm4 (Ne.symm om.2.2) hYl hn0 (by omega)).mono ?_
        rintro e w3 ⟨c2, rfl, hc2, Z2, hZ2n, hZ2l, hT2, hv2, hk3⟩
        have hkp3 := hkp2.drew.trans1 hk3
        have Hv2 := Lib.hid hv2; clear hv2 cz1 cm2 hYw
        cases Z2 with
        | nil => exact absurd hZ2n (by simp <;> omega)
        | cons z0 Z2t =>
          have cT := hT2.cell (n + i) (by simp; simp at hZ2n; omega)
          have fT := hT2.free (n + i)
          obtain ⟨vt, hvt⟩ : ∃ v, w3.cell? ⟨tb, n + i, none⟩ = some (.int .u64 (v : Nat)) := ⟨_, cT⟩
          clear cT
          go_wp2_with fail
          refine (add_any _ _ _ hc1 hc2 hc _).mono ?_
          rintro e w4 ⟨s, c', rfl, hA5, rfl⟩
          go_wp2
          have hz00 : z0 = 0 := by
            have h1 := Hv2.out
            rw [Km5.out, val_cons, val_cons, pow_pred hn0] at h1
            exact mont_low Hinv.out HY.out h1 rfl hZ2l.head
          have hZ2t : Z2t.length + 1 = n := by simpa using hZ2n
          refine ⟨⟨i + 1, c', A ++ [z0], Z2t ++ [s], by go_num, rfl, by omega, hA5.le, by show _ = _; simp [hAn'], by show _ = _; simp; omega, hZ2l.tail.append (Lt.cons hA5.lt Lt.nil), ?_, ?_, hkp3.setCell (by simp) _⟩, by simp [intOf]; omega⟩
          · have := hT2.set (n + i) s
            rw [show n + i = A.length + (Z2t.length + 1) by omega, mont_lists] at this
            rw [show n + i = A.length + (Z2t.length + 1) by omega]
            exact this
          · obtain ⟨K, hK1, hK2⟩ := hinvt.out
            have h1 := Hv1.out
            have h2 := Hv2.out
            rw [Ka5.out] at h1
            rw [Km5.out] at h2
            have h3 : val (z0 :: Z2t) = BB * val Z2t := by rw [val_cons, hz00]; omega
            have hP : BB ^ n = BB * BB ^ (n - 1) := pow_pred hn0
            have hst := mont_step hP hK1 h1 h2 h3 hA5.eq
            have hpi : BB ^ (i + 1) = BB * BB ^ i := Nat.pow_succ'
            refine ⟨K + Y * BB ^ i, ?_, ?_⟩
            · rw [Hts.out, val_append, show Z2t.length = n - 1 by omega, show val [s] = s by simp [val], hpi, ← hst]
            · have h5 : (Y + 1) * BB ^ i ≤ BB * BB ^ i := Nat.mul_le_mul_right _ hYl
              rw [Nat.add_mul] at h5
              rw [hpi]
              omega
    · have hin : n = i := by omega
      subst hin
      have hAn' := hAn.out
      have hZn' := hZn.out
      obtain ⟨K, hK1, hK2⟩ := hinvt.out
      rw [List.take_of_length_le (by have := Kb2.out; omega), Kb5.out] at hK1
      obtain ⟨q1, q2⟩ := mont_end hK1 ham hK2
      have Q1 := Lib.hid q1; have Q2 := Lib.hid q2
      have hx2 := hx1.keeps hkp (by simpa using ox.1) (by simpa using ox.2)
      have hm2 := KM.out _ hkp
      clear hK1 hK2 q1 q2 hinvt
      have i1 : ¬ (n : Int) < n := by omega
      have i2 : ¬ (64 = n) := by omega
      have i2' : ¬ ((64 : Int) = n) := by omega
      have i5 : n ≤ (n * 2) := by omega
      have i6 : (n * 2) - n = n := by omega
      have i7 : (n : Int) ≤ ((n : Int) * 2) := by omega
      go_wp2_with fail
      refine wp_region_txt [0,0,2,0,0,1,0,0,0,2] (fun _ => True) (by kernel_rfl) (by kernel_rfl) trivial ?_
      simp only [withMarks]
      repeat (first
        | ((with_reducible refine txt_v (v := ?_) ?_ ?_); (any_goals ((with_reducible refine Yl.mk ?_ ?_); rfl; intro w hSw; (go_simp <;> (try go_bits) <;> (repeat (first | rw [if_pos (by omega)] | rw [if_neg (by omega)])) <;> with_reducible rfl))); try simp only [Act.put, List.setIfInBounds_toArray, List.set_cons_zero, List.set_cons_succ])
        | ((with_reducible refine txt_u ?_ ?_); rfl; try simp only [Act.put, List.setIfInBounds_toArray, List.set_cons_zero, List.set_cons_succ])
        | ((with_reducible refine txt_l (v := ?_) ?_ ?_); (any_goals ((with_reducible refine Reads.mk ?_ ?_); rfl; (go_simp <;> (try go_bits) <;> (repeat (first | rw [if_pos (by omega)] | rw [if_neg (by omega)])) <;> with_reducible rfl))); try simp only [Act.put, List.setIfInBounds_toArray, List.set_cons_zero, List.set_cons_succ])
        | ((with_reducible refine txt_e ?_ ?_); rfl; intro K hK; go_simp; (first | (refine hK _ _ trivial ?_) | ((first | (go_at_call 83; refine (nat_reset px lx kx cx vx n _ hx2.drew hcx hcx').mono ?_; rintro e w2 ⟨rfl, hx3, hk3⟩; have hT3 := hT.drew.keeps hk3 (by simp [Ne.symm ox.1, Ne.symm ox.2]); have hm3 := (ModB.keeps (w := World.drew _) ⟨hm2.hdr, hm2.nat.drew⟩ hk3 (by simp [n1, n3]) (by simp [n2, n5]) (by simp [Ne.symm n4, hl])); have ch3 := hx3.hdr.cell; obtain ⟨X, XJ, rx1, rx2, rx3, rx4, rx5⟩ := hx3.row; obtain ⟨w5, hcp, hr5, hk5⟩ := run_copy_words rx1 hT3 0 n n cx n (64 - n) n (by simp [Nat.min_def]) (by simp; omega) (by simp; omega); have HR5 := Lib.hid hr5; have HX2 := Lib.hid rx2; have HX3 := Lib.hid rx3; clear hr5 rx2 rx3 rx5)); dsimp only; refine hK _ _ trivial ?_)); clear hK K; try simp only [Act.put, List.setIfInBounds_toArray, List.set_cons_zero, List.set_cons_succ]))
      refine txt_nil ?_
      go_wp2_with fail
      have hx5 : NatV w5 px lx n cx (val Z) := by
        refine ⟨hx3.hdr.keeps hk5 (by simpa using hx3.ne), Z, XJ, ?_, hZn', by have := HX2.out; have := HX3.out; omega, hZl, rfl⟩
        have := HR5.out
        have e5 : ((A ++ (Z ++ List.replicate (64 - n - n) 0)).drop n).take n = Z := by
          rw [List.drop_left' hAn', List.take_left' hZn']
        have e6 : (X ++ XJ).drop (0 + n) = XJ := by rw [Nat.zero_add, List.drop_left' HX2.out]
        rw [e5, e6, List.take_zero, List.nil_append] at this
        exact this
      have hm5 := hm3.keeps hk5 (by simp [n1]) (by simp [n2]) (by simp [hl])
      refine (maybeSub (pr := c = 1) px lx n cx (val Z) c pm pn ln m m0 odd rv _ hx5 ⟨hc, Iff.rfl⟩ hm5).mono ?_
      rintro e w6 ⟨rfl, v', h1, h2, h3, hx6, hk6⟩
      have hfin := mont_fin rfl Q1.out hmP hc h1 h2 h3
      have hfin2 := hfin.2 _ _ Q2.out
      have hfin1 := hfin.1
      have Hf := Lib.hid hfin2
      clear h1 h2 h3 hfin hfin2 hcp
      have hkk : Keeps [px, lx] w w6 := by
        have htb := HTB.out
        have a1 : Keeps [px, lx] w w1 := hk1.mono (by simp)
        have a2 := a1.trans hkp (by intro x hx hlt'; simp at hx; subst hx; omega)
        have a3 := a2.drew.trans1 hk3
        have a5 := a3.trans hk5 (by simp)
        exact a5.trans hk6 (by simp)
      go_wp2
      go_ret
      exact ⟨rfl, v', hfin1, Hf.out, hx6, hkk⟩

end Go.Proofs.YtnfjmngchapdnaaGreatDoor
