import Derived.Test.YtnfjmngchapdnaaGreatDoorMModN
import Derived.Test.YtnfjmngchapdnaaGreatDoorMMont
/- bigmod: Mul. -/
namespace Go.Proofs.YtnfjmngchapdnaaGreatDoor
open Go.RowKit

theorem mul_end {A Z : List Nat} {i z c R v y : Nat} {Z' : List Nat} (hA : A.length = i) (h : val A + BB ^ i * val Z = v) (h1 : val (z :: Z') + c * R = val Z + y) (hR : R = BB ^ (Z'.length + 1)) :
    val (A ++ [z]) + BB ^ (i + 1) * val (Z' ++ [c]) = v + BB ^ i * y := by
  subst hR
  rw [val_append, val_append, hA]
  have e0 : val [z] = z := by simp [val]
  have e0' : val [c] = c := by simp [val]
  rw [e0, e0']
  have e1 : val (z :: Z') = z + BB * val Z' := rfl
  rw [e1] at h1
  have h2 := congrArg (BB ^ i * ·) h1
  simp only [Nat.mul_add] at h2
  have e2 : BB ^ (i + 1) * (val Z' + BB ^ Z'.length * c) = BB ^ i * (BB * val Z') + BB ^ i * (c * BB ^ (Z'.length + 1)) := by
    rw [Nat.pow_succ, Nat.pow_succ, Nat.mul_assoc, Nat.mul_add, Nat.mul_add, Nat.mul_comm c, Nat.mul_assoc, Nat.mul_left_comm BB]
  rw [e2]
  omega

set_option maxRecDepth 100000 in
set_option maxHeartbeats 4000000 in
theorem mul_default (p lb c v q lc c' u pm pn ln n m m0 : Nat) (rv : Value) (w : World) (hx : NatV w p lb n c v) (hy : NatV w q lc n c' u)
    (hm : ModB w pm pn ln n m false m0 rv) (hl : ln ≠ lb) (hc : c ≤ 1000) (hbig : BB ^ (n - 1) ≤ m) (hm0 : 0 < m) (h16 : n ≠ 16) (h24 : n ≠ 24) (hn31 : n ≤ 31) (hn0 : 0 < n) :
    Calls Tryz.prog 74 #[.pointer (some ⟨p, 0, none⟩), .pointer (some ⟨q, 0, none⟩), .pointer (some ⟨pm, 0, none⟩)] w fun e w' =>
      e = .returned (.pointer (some ⟨p, 0, none⟩)) ∧ NatV w' p lb n c ((v * u) % m) ∧ Keeps [p, lb] w w' := by
  have hnca := hx.le
  have hncb := hy.le
  have n1 := hm.ne_row hx
  have n2 := hm.nat.ne2 hx
  have n3 := hm.ne_hdr hx
  have n4 := hx.ne2 hm.nat
  have n5 := hm.nat.ne_p hx hl
  have c0 := hm.hdr.c0
  have c1 := hm.hdr.c1
  have cn := hm.nat.hdr.cell
  have caa := hx.hdr.cell
  have cbb := hy.hdr.cell
  obtain ⟨w1, hmk, hr1, hk1, hs1⟩ := run_make_words w 0 64 (by omega) (by omega)
  have HK := Lib.hid hmk; have HS1 := Lib.hid hs1
  have hmk' : (Instr.makeSlice 110 (.int .i64 0) (.int .i64 64)).run Tryz.prog w = .ok (.slice (some ⟨w.heap.size, 0, none⟩) 0 64) w1 := hmk
  have hx1 := hx.kept hk1
  have hy1 := hy.kept hk1
  have hm1 := hm.kept hk1
  have ot : w.heap.size ≤ w.heap.size := Nat.le_refl _
  have ox := hx.old ot; have oy := hy.old ot; have om := hm.old ot
  clear hmk hs1
  obtain ⟨tb, htb⟩ : ∃ tb, tb = w.heap.size := ⟨_, rfl⟩
  rw [← htb] at hmk' hr1 ox oy om
  have HTB := Lib.hid htb
  clear htb ot
  have z1 : ((n : Int) == 16) = false := by simp; omega
  have z2 : ((n : Int) == 24) = false := by simp; omega
  have z3 : ((n : Int) == 32) = false := by simp; omega
  have z4 : n * 2 ≤ 64 := by omega
  have z5 : ¬ (64 : Int) < (n : Int) * 2 := by omega
  go_enter Tryz.func74, Tryz.ntmps74
  go_wp2_with fail
  clear hmk' c0 c1 cn caa cbb
  have HX1 := Lib.hid hx1; have HM1 := Lib.hid hm1
  obtain ⟨aL, aJ, ra1, ra2, ra3, ra4, ra5⟩ := hx1.row
  obtain ⟨bL, bJ, rb1, rb2, rb3, rb4, rb5⟩ := hy1.row
  have Ka2 := Lib.hid ra2; have Ka3 := Lib.hid ra3; have Ka5 := Lib.hid ra5; have Kb2 := Lib.hid rb2; have Kb3 := Lib.hid rb3; have Kb5 := Lib.hid rb5
  clear ra2 ra3 ra5 rb2 rb3 rb5 hx1 hm1 hy1
  have Hbig := Lib.hid hbig
  clear hbig
  go_loopw [12] (fun ii wr => ∃ (i : Nat) (A Z : List Nat), ii = .int .i64 i ∧ i ≤ n ∧ Hid (A.length = i) ∧ Hid (Z.length = n) ∧ Lt A ∧ Lt Z ∧ Row wr tb (A ++ (Z ++ List.replicate (64 - n - i) 0)) ∧
    Hid (val A + BB ^ i * val Z = v * val (bL.take i)) ∧ Keeps [tb] w1 wr) (fun ii _ => n - (intOf ii).toNat)
  case atStart => exact ⟨0, [], List.replicate n 0, rfl, by omega, Lib.hid rfl, Lib.hid (by simp), Lt.nil, Lt.replicate _, by rw [List.nil_append, List.replicate_append_replicate]; simpa [show n + (64 - n) = 64 by omega] using hr1, Lib.hid (by simp [val_replicate, val]), Keeps.refl _ _⟩
  case round =>
    obtain ⟨i, A, Z, rfl, hi, hAn, hZn, hAl, hZl, hT, hinvt, hkp⟩ := hrel
    by_cases hlt : i < n
    · have hAn' := hAn.out
      have hZn' := hZn.out
      have e0 : List.replicate (64 - n - i) 0 = 0 :: List.replicate (64 - n - (i + 1)) 0 := by
        rw [show 64 - n - i = (64 - n - (i + 1)) + 1 by omega]; rfl
      rw [e0] at hT
      have hra := ra1.keeps hkp (by simpa using ox.2)
      have cb1 := (rb1.keeps hkp (by simpa using oy.2)).cell i (by have := Kb2.out; simp; omega)
      rw [List.getElem_append_left (by have := Kb2.out; omega)] at cb1
      have bb1 := rb4.get i (by have := Kb2.out; omega)
      have hts := val_take_succ bL i (by have := Kb2.out; omega)
      obtain ⟨d, hd⟩ : ∃ x, bL[i]'(by have := Kb2.out; omega) = x := ⟨_, rfl⟩
      rw [hd] at cb1 bb1 hts
      have Hts := Lib.hid hts; have HRA := Lib.hid hra; have HKP := Lib.hid hkp
      clear e0 hd hts hra hkp
      have i1 : (i : Int) < n := by omega
      have i2 : ¬ (64 = i) := by omega
      have i2' : ¬ ((64 : Int) = (i : Int)) := by omega
      have i3 : i + n - i = n := by omega
      have i3' : n + i - i = n := by omega
      have i4 : (i : Int) ≤ (i : Int) + n := by omega
      have i4' : (i : Int) ≤ n + (i : Int) := by omega
      have i5 : i + n ≤ 64 := by omega
      have i5' : n + i ≤ 64 := by omega
      have i6 : (0 : Int) ≤ (i : Int) := by omega
      have i7 : n + i < (n * 2) := by omega
      have i8 : i + n < (n * 2) := by omega
      go_wp2_with fail
      refine wp_region_txt [0,0,0,0,0,0,0,0,0,0,0,0,0,0,1,2,0,2] (fun _ => True) (by kernel_rfl) (by kernel_rfl) trivial ?_
      simp only [withMarks]
      repeat (first
        | ((with_reducible refine txt_v (v := ?_) ?_ ?_); (any_goals ((with_reducible refine Yl.mk ?_ ?_); rfl; intro w hSw; (go_simp <;> (try go_bits) <;> (repeat (first | rw [if_pos (by omega)] | rw [if_neg (by omega)])) <;> with_reducible rfl))); try simp only [Act.put, List.setIfInBounds_toArray, List.set_cons_zero, List.set_cons_succ])
        | ((with_reducible refine txt_u ?_ ?_); rfl; try simp only [Act.put, List.setIfInBounds_toArray, List.set_cons_zero, List.set_cons_succ])
        | ((with_reducible refine txt_l (v := ?_) ?_ ?_); (any_goals ((with_reducible refine Reads.mk ?_ ?_); rfl; (go_simp <;> (try go_bits) <;> (repeat (first | rw [if_pos (by omega)] | rw [if_neg (by omega)])) <;> with_reducible rfl))); try simp only [Act.put, List.setIfInBounds_toArray, List.set_cons_zero, List.set_cons_succ])
        | ((with_reducible refine txt_e ?_ ?_); rfl; intro K hK; go_simp; (first | (refine hK _ _ trivial ?_) | ((first | (go_at_call 99; refine (addMulVVW_any tb i n _ lb _ d A Z (0 :: List.replicate (64 - n - (i + 1)) 0) aL aJ _ hT.drew hAn' hZn' hZl HRA.out.drew Ka2.out ra4 (Ne.symm ox.2) bb1 (by omega) (by omega)).mono ?_; rintro e w2 ⟨c1, rfl, hc1, Z1, hZ1n, hZ1l, hT1, hv1, hk2⟩; have Hv1 := Lib.hid hv1; clear hv1; have cT := hT1.cell (n + i) (by simp; omega); have fT := hT1.free (n + i); obtain ⟨vt, hvt⟩ : ∃ v, w2.cell? ⟨tb, n + i, none⟩ = some (.int .u64 (v : Nat)) := ⟨_, cT⟩; clear cT; have hk2' := HKP.out.drew.trans1 hk2)); dsimp only; refine hK _ _ trivial ?_)); clear hK K; try simp only [Act.put, List.setIfInBounds_toArray, List.set_cons_zero, List.set_cons_succ]))
      refine txt_nil ?_
      go_wp2_with fail
      cases Z1 with
      | nil => exact absurd hZ1n (by simp <;> omega)
      | cons z1 Z1t =>
        have hZ1t : Z1t.length + 1 = n := by simpa using hZ1n
        refine ⟨⟨i + 1, A ++ [z1], Z1t ++ [c1], by go_num, by omega, Lib.hid (by simp [hAn']), Lib.hid (by simp; omega), hAl.append (Lt.cons hZ1l.head Lt.nil), hZ1l.tail.append (Lt.cons hc1 Lt.nil), ?_, Lib.hid ?_, hk2'.setCell (by simp) _⟩, by simp [intOf]; omega⟩
        · have := hT1.set (n + i) c1
          rw [show n + i = A.length + (Z1t.length + 1) by omega, mont_lists] at this
          rw [show n + i = A.length + (Z1t.length + 1) by omega]
          exact this
        · rw [Hts.out, Nat.mul_add, Nat.mul_left_comm]
          refine mul_end hAn' hinvt.out ?_ (by rw [hZ1t])
          rw [Hv1.out, Ka5.out]
    · have hin : n = i := by omega
      subst hin
      have hAn' := hAn.out
      have hZn' := hZn.out
      have hval : Hid (val (A ++ Z) = v * u) := by
        rw [val_append, hAn']
        have := hinvt.out
        rw [List.take_of_length_le (by have := Kb2.out; omega), Kb5.out] at this
        exact Lib.hid this
      have hm2 := HM1.out.keeps hkp (by simpa using om.1) (by simpa using om.2.1) (by simpa using om.2.2)
      have hx2 := HX1.out.keeps hkp (by simpa using ox.1) (by simpa using ox.2)
      have HM2 := Lib.hid hm2; have HX2 := Lib.hid hx2; have HKP := Lib.hid hkp; have HT := Lib.hid hT
      clear hm2 hx2 hkp hT hinvt hZn hAn
      have i1 : ¬ (n : Int) < n := by omega
      go_wp2_with fail
      have hq : NatV (wr.alloc (.cells #[.slice (some ⟨tb, 0, none⟩) (n * 2) 64] 112)) wr.heap.size tb (n * 2) 64 (v * u) :=
        ⟨Hdr.new _ _ _ _, A ++ Z, List.replicate (64 - n - n) 0, by rw [List.append_assoc]; exact HT.out.alloc _, by simp; omega, by simp; omega, hAl.append hZl, hval.out⟩
      have hka : Keeps [] wr (wr.alloc (.cells #[.slice (some ⟨tb, 0, none⟩) (n * 2) 64] 112)) := (Keeps.refl _ _).alloc _
      have o1 := HX2.out.old (Nat.le_refl _)
      refine (nat_Mod p lb n c v wr.heap.size tb (n * 2) 64 (v * u) pm pn ln n m m0 false rv _ (HX2.out.kept hka) hq (HM2.out.kept hka) hl (Ne.symm ox.2) o1.1 (Ne.symm n5) (by omega) hc (by omega) (by omega) Hbig.out hm0).mono ?_
      rintro e w3 ⟨rfl, hx3, hk3⟩
      have HX3 := Lib.hid hx3
      have hkk : Hid (Keeps [p, lb] w w3) := by
        have htb := HTB.out
        have a1 : Keeps [p, lb] w w1 := hk1.mono (by simp)
        have a2 := a1.trans HKP.out (by intro x hx hlt'; simp at hx; subst hx; omega)
        exact Lib.hid ((a2.alloc _).trans1 hk3)
      clear hx3 hk3 hq hka
      go_wp2
      go_ret
      exact ⟨rfl, HX3.out, hkk.out⟩

set_option maxRecDepth 100000 in
set_option maxHeartbeats 4000000 in
theorem mul_16 (p lb c v q lc c' u pm pn ln  m m0 : Nat) (rv : Value) (w : World) (hx : NatV w p lb 16 c v) (hy : NatV w q lc 16 c' u)
    (hm : ModB w pm pn ln 16 m false m0 rv) (hl : ln ≠ lb) (hc : c ≤ 1000) (hbig : BB ^ (16 - 1) ≤ m) (hm0 : 0 < m) :
    Calls Tryz.prog 74 #[.pointer (some ⟨p, 0, none⟩), .pointer (some ⟨q, 0, none⟩), .pointer (some ⟨pm, 0, none⟩)] w fun e w' =>
      e = .returned (.pointer (some ⟨p, 0, none⟩)) ∧ NatV w' p lb 16 c ((v * u) % m) ∧ Keeps [p, lb] w w' := by
  have hnca := hx.le
  have hncb := hy.le
  have n1 := hm.ne_row hx
  have n2 := hm.nat.ne2 hx
  have n3 := hm.ne_hdr hx
  have n4 := hx.ne2 hm.nat
  have n5 := hm.nat.ne_p hx hl
  have c0 := hm.hdr.c0
  have c1 := hm.hdr.c1
  have cn := hm.nat.hdr.cell
  have caa := hx.hdr.cell
  have cbb := hy.hdr.cell
  obtain ⟨w1, hmk, hr1, hk1, hs1⟩ := run_make_words w 32 32 (by omega) (by omega)
  have HK := Lib.hid hmk; have HS1 := Lib.hid hs1
  have hmk' : (Instr.makeSlice 110 (.int .i64 32) (.int .i64 32)).run Tryz.prog w = .ok (.slice (some ⟨w.heap.size, 0, none⟩) 32 32) w1 := hmk
  have hx1 := hx.kept hk1
  have hy1 := hy.kept hk1
  have hm1 := hm.kept hk1
  have ot : w.heap.size ≤ w.heap.size := Nat.le_refl _
  have ox := hx.old ot; have oy := hy.old ot; have om := hm.old ot
  clear hmk hs1
  obtain ⟨tb, htb⟩ : ∃ tb, tb = w.heap.size := ⟨_, rfl⟩
  rw [← htb] at hmk' hr1 ox oy om
  have HTB := Lib.hid htb
  clear htb ot
  have z1 : ((16 : Int) == 16) = true := rfl
  go_enter Tryz.func74, Tryz.ntmps74
  go_wp2_with fail
  clear hmk' c0 c1 cn caa cbb
  have HX1 := Lib.hid hx1; have HM1 := Lib.hid hm1
  obtain ⟨aL, aJ, ra1, ra2, ra3, ra4, ra5⟩ := hx1.row
  obtain ⟨bL, bJ, rb1, rb2, rb3, rb4, rb5⟩ := hy1.row
  have Ka2 := Lib.hid ra2; have Ka3 := Lib.hid ra3; have Ka5 := Lib.hid ra5; have Kb2 := Lib.hid rb2; have Kb3 := Lib.hid rb3; have Kb5 := Lib.hid rb5
  clear ra2 ra3 ra5 rb2 rb3 rb5 hx1 hm1 hy1
  have Hbig := Lib.hid hbig
  clear hbig
  go_loopw [14] (fun ii wr => ∃ (i : Nat) (A Z : List Nat), ii = .int .i64 i ∧ i ≤ 16 ∧ Hid (A.length = i) ∧ Hid (Z.length = 16) ∧ Lt A ∧ Lt Z ∧ Row wr tb (A ++ (Z ++ List.replicate (32 - 16 - i) 0)) ∧
    Hid (val A + BB ^ i * val Z = v * val (bL.take i)) ∧ Keeps [tb] w1 wr) (fun ii _ => 16 - (intOf ii).toNat)
  case atStart => exact ⟨0, [], List.replicate 16 0, rfl, by omega, Lib.hid rfl, Lib.hid (by simp), Lt.nil, Lt.replicate _, by rw [List.nil_append, List.replicate_append_replicate]; simpa [show 16 + (32 - 16) = 32 by omega] using hr1, Lib.hid (by simp [val_replicate, val]), Keeps.refl _ _⟩
  case round =>
    obtain ⟨i, A, Z, rfl, hi, hAn, hZn, hAl, hZl, hT, hinvt, hkp⟩ := hrel
    by_cases hlt : i < 16
    · have hAn' := hAn.out
      have hZn' := hZn.out
      have e0 : List.replicate (32 - 16 - i) 0 = 0 :: List.replicate (32 - 16 - (i + 1)) 0 := by
        rw [show 32 - 16 - i = (32 - 16 - (i + 1)) + 1 by omega]; rfl
      rw [e0] at hT
      have hra := ra1.keeps hkp (by simpa using ox.2)
      have cb1 := (rb1.keeps hkp (by simpa using oy.2)).cell i (by have := Kb2.out; simp; omega)
      rw [List.getElem_append_left (by have := Kb2.out; omega)] at cb1
      have bb1 := rb4.get i (by have := Kb2.out; omega)
      have hts := val_take_succ bL i (by have := Kb2.out; omega)
      obtain ⟨d, hd⟩ : ∃ x, bL[i]'(by have := Kb2.out; omega) = x := ⟨_, rfl⟩
      rw [hd] at cb1 bb1 hts
      have Hts := Lib.hid hts; have HRA := Lib.hid hra; have HKP := Lib.hid hkp
      clear e0 hd hts hra hkp
      have i1 : (i : Int) < 16 := by omega
      have i2 : ¬ (32 = i) := by omega
      have i2' : ¬ ((32 : Int) = (i : Int)) := by omega
      have i3 : i + 16 - i = 16 := by omega
      have i3' : 16 + i - i = 16 := by omega
      have i4 : (i : Int) ≤ (i : Int) + 16 := by omega
      have i4' : (i : Int) ≤ 16 + (i : Int) := by omega
      have i5 : i + 16 ≤ 32 := by omega
      have i5' : 16 + i ≤ 32 := by omega
      have i6 : (0 : Int) ≤ (i : Int) := by omega
      have i7 : 16 + i < 32 := by omega
      have i8 : i + 16 < 32 := by omega
      go_wp2_with fail
      refine wp_region_txt [0,0,0,0,0,0,0,0,0,0,0,0,0,1,2,0,2] (fun _ => True) (by kernel_rfl) (by kernel_rfl) trivial ?_
      simp only [withMarks]
      repeat (first
        | ((with_reducible refine txt_v (v := ?_) ?_ ?_); (any_goals ((with_reducible refine Yl.mk ?_ ?_); rfl; intro w hSw; (go_simp <;> (try go_bits) <;> (repeat (first | rw [if_pos (by omega)] | rw [if_neg (by omega)])) <;> with_reducible rfl))); try simp only [Act.put, List.setIfInBounds_toArray, List.set_cons_zero, List.set_cons_succ])
        | ((with_reducible refine txt_u ?_ ?_); rfl; try simp only [Act.put, List.setIfInBounds_toArray, List.set_cons_zero, List.set_cons_succ])
        | ((with_reducible refine txt_l (v := ?_) ?_ ?_); (any_goals ((with_reducible refine Reads.mk ?_ ?_); rfl; (go_simp <;> (try go_bits) <;> (repeat (first | rw [if_pos (by omega)] | rw [if_neg (by omega)])) <;> with_reducible rfl))); try simp only [Act.put, List.setIfInBounds_toArray, List.set_cons_zero, List.set_cons_succ])
        | ((with_reducible refine txt_e ?_ ?_); rfl; intro K hK; go_simp; (first | (refine hK _ _ trivial ?_) | ((first | (go_at_call 99; refine (addMulVVW_any tb i 16 _ lb _ d A Z (0 :: List.replicate (32 - 16 - (i + 1)) 0) aL aJ _ hT.drew hAn' hZn' hZl HRA.out.drew Ka2.out ra4 (Ne.symm ox.2) bb1 (by omega) (by omega)).mono ?_; rintro e w2 ⟨c1, rfl, hc1, Z1, hZ1n, hZ1l, hT1, hv1, hk2⟩; have Hv1 := Lib.hid hv1; clear hv1; have cT := hT1.cell (16 + i) (by simp; omega); have fT := hT1.free (16 + i); obtain ⟨vt, hvt⟩ : ∃ v, w2.cell? ⟨tb, 16 + i, none⟩ = some (.int .u64 (v : Nat)) := ⟨_, cT⟩; clear cT; have hk2' := HKP.out.drew.trans1 hk2)); dsimp only; refine hK _ _ trivial ?_)); clear hK K; try simp only [Act.put, List.setIfInBounds_toArray, List.set_cons_zero, List.set_cons_succ]))
      refine txt_nil ?_
      go_wp2_with fail
      cases Z1 with
      | nil => exact absurd hZ1n (by simp <;> omega)
      | cons z1 Z1t =>
        have hZ1t : Z1t.length + 1 = 16 := by simpa using hZ1n
        refine ⟨⟨i + 1, A ++ [z1], Z1t ++ [c1], by go_num, by omega, Lib.hid (by simp [hAn']), Lib.hid (by simp; omega), hAl.append (Lt.cons hZ1l.head Lt.nil), hZ1l.tail.append (Lt.cons hc1 Lt.nil), ?_, Lib.hid ?_, hk2'.setCell (by simp) _⟩, by simp [intOf]; omega⟩
        · have := hT1.set (16 + i) c1
          rw [show 16 + i = A.length + (Z1t.length + 1) by omega, mont_lists] at this
          rw [show 16 + i = A.length + (Z1t.length + 1) by omega]
          exact this
        · rw [Hts.out, Nat.mul_add, Nat.mul_left_comm]
          refine mul_end hAn' hinvt.out ?_ (by rw [hZ1t])
          rw [Hv1.out, Ka5.out]
    · have hin : 16 = i := by omega
      subst hin
      have hAn' := hAn.out
      have hZn' := hZn.out
      have hval : Hid (val (A ++ Z) = v * u) := by
        rw [val_append, hAn']
        have := hinvt.out
        rw [List.take_of_length_le (by have := Kb2.out; omega), Kb5.out] at this
        exact Lib.hid this
      have hm2 := HM1.out.keeps hkp (by simpa using om.1) (by simpa using om.2.1) (by simpa using om.2.2)
      have hx2 := HX1.out.keeps hkp (by simpa using ox.1) (by simpa using ox.2)
      have HM2 := Lib.hid hm2; have HX2 := Lib.hid hx2; have HKP := Lib.hid hkp; have HT := Lib.hid hT
      clear hm2 hx2 hkp hT hinvt hZn hAn
      have i1 : ¬ (16 : Int) < 16 := by omega
      go_wp2_with fail
      have hq : NatV (wr.alloc (.cells #[.slice (some ⟨tb, 0, none⟩) 32 32] 112)) wr.heap.size tb 32 32 (v * u) :=
        ⟨Hdr.new _ _ _ _, A ++ Z, List.replicate (32 - 16 - 16) 0, by rw [List.append_assoc]; exact HT.out.alloc _, by simp; omega, by simp; omega, hAl.append hZl, hval.out⟩
      have hka : Keeps [] wr (wr.alloc (.cells #[.slice (some ⟨tb, 0, none⟩) 32 32] 112)) := (Keeps.refl _ _).alloc _
      have o1 := HX2.out.old (Nat.le_refl _)
      refine (nat_Mod p lb 16 c v wr.heap.size tb 32 32 (v * u) pm pn ln 16 m m0 false rv _ (HX2.out.kept hka) hq (HM2.out.kept hka) hl (Ne.symm ox.2) o1.1 (Ne.symm n5) (by omega) hc (by omega) (by omega) Hbig.out hm0).mono ?_
      rintro e w3 ⟨rfl, hx3, hk3⟩
      have HX3 := Lib.hid hx3
      have hkk : Hid (Keeps [p, lb] w w3) := by
        have htb := HTB.out
        have a1 : Keeps [p, lb] w w1 := hk1.mono (by simp)
        have a2 := a1.trans HKP.out (by intro x hx hlt'; simp at hx; subst hx; omega)
        exact Lib.hid ((a2.alloc _).trans1 hk3)
      clear hx3 hk3 hq hka
      go_wp2
      go_ret
      exact ⟨rfl, HX3.out, hkk.out⟩

set_option maxRecDepth 100000 in
set_option maxHeartbeats 4000000 in
theorem mul_24 (p lb c v q lc c' u pm pn ln  m m0 : Nat) (rv : Value) (w : World) (hx : NatV w p lb 24 c v) (hy : NatV w q lc 24 c' u)
    (hm : ModB w pm pn ln 24 m false m0 rv) (hl : ln ≠ lb) (hc : c ≤ 1000) (hbig : BB ^ (24 - 1) ≤ m) (hm0 : 0 < m) :
    Calls Tryz.prog 74 #[.pointer (some ⟨p, 0, none⟩), .pointer (some ⟨q, 0, none⟩), .pointer (some ⟨pm, 0, none⟩)] w fun e w' =>
      e = .returned (.pointer (some ⟨p, 0, none⟩)) ∧ NatV w' p lb 24 c ((v * u) % m) ∧ Keeps [p, lb] w w' := by
  have hnca := hx.le
  have hncb := hy.le
  have n1 := hm.ne_row hx
  have n2 := hm.nat.ne2 hx
  have n3 := hm.ne_hdr hx
  have n4 := hx.ne2 hm.nat
  have n5 := hm.nat.ne_p hx hl
  have c0 := hm.hdr.c0
  have c1 := hm.hdr.c1
  have cn := hm.nat.hdr.cell
  have caa := hx.hdr.cell
  have cbb := hy.hdr.cell
  obtain ⟨w1, hmk, hr1, hk1, hs1⟩ := run_make_words w 48 48 (by omega) (by omega)
  have HK := Lib.hid hmk; have HS1 := Lib.hid hs1
  have hmk' : (Instr.makeSlice 110 (.int .i64 48) (.int .i64 48)).run Tryz.prog w = .ok (.slice (some ⟨w.heap.size, 0, none⟩) 48 48) w1 := hmk
  have hx1 := hx.kept hk1
  have hy1 := hy.kept hk1
  have hm1 := hm.kept hk1
  have ot : w.heap.size ≤ w.heap.size := Nat.le_refl _
  have ox := hx.old ot; have oy := hy.old ot; have om := hm.old ot
  clear hmk hs1
  obtain ⟨tb, htb⟩ : ∃ tb, tb = w.heap.size := ⟨_, rfl⟩
  rw [← htb] at hmk' hr1 ox oy om
  have HTB := Lib.hid htb
  clear htb ot
  have z1 : ((24 : Int) == 24) = true := rfl
  have z0 : ((24 : Int) == 16) = false := rfl
  go_enter Tryz.func74, Tryz.ntmps74
  go_wp2_with fail
  clear hmk' c0 c1 cn caa cbb
  have HX1 := Lib.hid hx1; have HM1 := Lib.hid hm1
  obtain ⟨aL, aJ, ra1, ra2, ra3, ra4, ra5⟩ := hx1.row
  obtain ⟨bL, bJ, rb1, rb2, rb3, rb4, rb5⟩ := hy1.row
  have Ka2 := Lib.hid ra2; have Ka3 := Lib.hid ra3; have Ka5 := Lib.hid ra5; have Kb2 := Lib.hid rb2; have Kb3 := Lib.hid rb3; have Kb5 := Lib.hid rb5
  clear ra2 ra3 ra5 rb2 rb3 rb5 hx1 hm1 hy1
  have Hbig := Lib.hid hbig
  clear hbig
  go_loopw [16] (fun ii wr => ∃ (i : Nat) (A Z : List Nat), ii = .int .i64 i ∧ i ≤ 24 ∧ Hid (A.length = i) ∧ Hid (Z.length = 24) ∧ Lt A ∧ Lt Z ∧ Row wr tb (A ++ (Z ++ List.replicate (48 - 24 - i) 0)) ∧
    Hid (val A + BB ^ i * val Z = v * val (bL.take i)) ∧ Keeps [tb] w1 wr) (fun ii _ => 24 - (intOf ii).toNat)
  case atStart => exact ⟨0, [], List.replicate 24 0, rfl, by omega, Lib.hid rfl, Lib.hid (by simp), Lt.nil, Lt.replicate _, by rw [List.nil_append, List.replicate_append_replicate]; simpa [show 24 + (48 - 24) = 48 by omega] using hr1, Lib.hid (by simp [val_replicate, val]), Keeps.refl _ _⟩
  case round =>
    obtain ⟨i, A, Z, rfl, hi, hAn, hZn, hAl, hZl, hT, hinvt, hkp⟩ := hrel
    by_cases hlt : i < 24
    · have hAn' := hAn.out
      have hZn' := hZn.out
      have e0 : List.replicate (48 - 24 - i) 0 = 0 :: List.replicate (48 - 24 - (i + 1)) 0 := by
        rw [show 48 - 24 - i = (48 - 24 - (i + 1)) + 1 by omega]; rfl
      rw [e0] at hT
      have hra := ra1.keeps hkp (by simpa using ox.2)
      have cb1 := (rb1.keeps hkp (by simpa using oy.2)).cell i (by have := Kb2.out; simp; omega)
      rw [List.getElem_append_left (by have := Kb2.out; omega)] at cb1
      have bb1 := rb4.get i (by have := Kb2.out; omega)
      have hts := val_take_succ bL i (by have := Kb2.out; omega)
      obtain ⟨d, hd⟩ : ∃ x, bL[i]'(by have := Kb2.out; omega) = x := ⟨_, rfl⟩
      rw [hd] at cb1 bb1 hts
      have Hts := Lib.hid hts; have HRA := Lib.hid hra; have HKP := Lib.hid hkp
      clear e0 hd hts hra hkp
      have i1 : (i : Int) < 24 := by omega
      have i2 : ¬ (48 = i) := by omega
      have i2' : ¬ ((48 : Int) = (i : Int)) := by omega
      have i3 : i + 24 - i = 24 := by omega
      have i3' : 24 + i - i = 24 := by omega
      have i4 : (i : Int) ≤ (i : Int) + 24 := by omega
      have i4' : (i : Int) ≤ 24 + (i : Int) := by omega
      have i5 : i + 24 ≤ 48 := by omega
      have i5' : 24 + i ≤ 48 := by omega
      have i6 : (0 : Int) ≤ (i : Int) := by omega
      have i7 : 24 + i < 48 := by omega
      have i8 : i + 24 < 48 := by omega
      go_wp2_with fail
      refine wp_region_txt [0,0,0,0,0,0,0,0,0,0,0,0,0,1,2,0,2] (fun _ => True) (by kernel_rfl) (by kernel_rfl) trivial ?_
      simp only [withMarks]
      repeat (first
        | ((with_reducible refine txt_v (v := ?_) ?_ ?_); (any_goals ((with_reducible refine Yl.mk ?_ ?_); rfl; intro w hSw; (go_simp <;> (try go_bits) <;> (repeat (first | rw [if_pos (by omega)] | rw [if_neg (by omega)])) <;> with_reducible rfl))); try simp only [Act.put, List.setIfInBounds_toArray, List.set_cons_zero, List.set_cons_succ])
        | ((with_reducible refine txt_u ?_ ?_); rfl; try simp only [Act.put, List.setIfInBounds_toArray, List.set_cons_zero, List.set_cons_succ])
        | ((with_reducible refine txt_l (v := ?_) ?_ ?_); (any_goals ((with_reducible refine Reads.mk ?_ ?_); rfl; (go_simp <;> (try go_bits) <;> (repeat (first | rw [if_pos (by omega)] | rw [if_neg (by omega)])) <;> with_reducible rfl))); try simp only [Act.put, List.setIfInBounds_toArray, List.set_cons_zero, List.set_cons_succ])
        | ((with_reducible refine txt_e ?_ ?_); rfl; intro K hK; go_simp; (first | (refine hK _ _ trivial ?_) | ((first | (go_at_call 99; refine (addMulVVW_any tb i 24 _ lb _ d A Z (0 :: List.replicate (48 - 24 - (i + 1)) 0) aL aJ _ hT.drew hAn' hZn' hZl HRA.out.drew Ka2.out ra4 (Ne.symm ox.2) bb1 (by omega) (by omega)).mono ?_; rintro e w2 ⟨c1, rfl, hc1, Z1, hZ1n, hZ1l, hT1, hv1, hk2⟩; have Hv1 := Lib.hid hv1; clear hv1; have cT := hT1.cell (24 + i) (by simp; omega); have fT := hT1.free (24 + i); obtain ⟨vt, hvt⟩ : ∃ v, w2.cell? ⟨tb, 24 + i, none⟩ = some (.int .u64 (v : Nat)) := ⟨_, cT⟩; clear cT; have hk2' := HKP.out.drew.trans1 hk2)); dsimp only; refine hK _ _ trivial ?_)); clear hK K; try simp only [Act.put, List.setIfInBounds_toArray, List.set_cons_zero, List.set_cons_succ]))
      refine txt_nil ?_
      go_wp2_with fail
      cases Z1 with
      | nil => exact absurd hZ1n (by simp <;> omega)
      | cons z1 Z1t =>
        have hZ1t : Z1t.length + 1 = 24 := by simpa using hZ1n
        refine ⟨⟨i + 1, A ++ [z1], Z1t ++ [c1], by go_num, by omega, Lib.hid (by simp [hAn']), Lib.hid (by simp; omega), hAl.append (Lt.cons hZ1l.head Lt.nil), hZ1l.tail.append (Lt.cons hc1 Lt.nil), ?_, Lib.hid ?_, hk2'.setCell (by simp) _⟩, by simp [intOf]; omega⟩
        · have := hT1.set (24 + i) c1
          rw [show 24 + i = A.length + (Z1t.length + 1) by omega, mont_lists] at this
          rw [show 24 + i = A.length + (Z1t.length + 1) by omega]
          exact this
        · rw [Hts.out, Nat.mul_add, Nat.mul_left_comm]
          refine mul_end hAn' hinvt.out ?_ (by rw [hZ1t])
          rw [Hv1.out, Ka5.out]
    · have hin : 24 = i := by omega
      subst hin
      have hAn' := hAn.out
      have hZn' := hZn.out
      have hval : Hid (val (A ++ Z) = v * u) := by
        rw [val_append, hAn']
        have := hinvt.out
        rw [List.take_of_length_le (by have := Kb2.out; omega), Kb5.out] at this
        exact Lib.hid this
      have hm2 := HM1.out.keeps hkp (by simpa using om.1) (by simpa using om.2.1) (by simpa using om.2.2)
      have hx2 := HX1.out.keeps hkp (by simpa using ox.1) (by simpa using ox.2)
      have HM2 := Lib.hid hm2; have HX2 := Lib.hid hx2; have HKP := Lib.hid hkp; have HT := Lib.hid hT
      clear hm2 hx2 hkp hT hinvt hZn hAn
      have i1 : ¬ (24 : Int) < 24 := by omega
      go_wp2_with fail
      have hq : NatV (wr.alloc (.cells #[.slice (some ⟨tb, 0, none⟩) 48 48] 112)) wr.heap.size tb 48 48 (v * u) :=
        ⟨Hdr.new _ _ _ _, A ++ Z, List.replicate (48 - 24 - 24) 0, by rw [List.append_assoc]; exact HT.out.alloc _, by simp; omega, by simp; omega, hAl.append hZl, hval.out⟩
      have hka : Keeps [] wr (wr.alloc (.cells #[.slice (some ⟨tb, 0, none⟩) 48 48] 112)) := (Keeps.refl _ _).alloc _
      have o1 := HX2.out.old (Nat.le_refl _)
      refine (nat_Mod p lb 24 c v wr.heap.size tb 48 48 (v * u) pm pn ln 24 m m0 false rv _ (HX2.out.kept hka) hq (HM2.out.kept hka) hl (Ne.symm ox.2) o1.1 (Ne.symm n5) (by omega) hc (by omega) (by omega) Hbig.out hm0).mono ?_
      rintro e w3 ⟨rfl, hx3, hk3⟩
      have HX3 := Lib.hid hx3
      have hkk : Hid (Keeps [p, lb] w w3) := by
        have htb := HTB.out
        have a1 : Keeps [p, lb] w w1 := hk1.mono (by simp)
        have a2 := a1.trans HKP.out (by intro x hx hlt'; simp at hx; subst hx; omega)
        exact Lib.hid ((a2.alloc _).trans1 hk3)
      clear hx3 hk3 hq hka
      go_wp2
      go_ret
      exact ⟨rfl, HX3.out, hkk.out⟩


end Go.Proofs.YtnfjmngchapdnaaGreatDoor
