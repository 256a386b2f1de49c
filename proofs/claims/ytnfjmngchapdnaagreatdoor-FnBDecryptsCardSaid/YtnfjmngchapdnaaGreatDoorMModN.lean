import Derived.Test.YtnfjmngchapdnaaGreatDoorMLLess
/- bigmod: Mod (out = x mod m). -/
namespace Go.Proofs.YtnfjmngchapdnaaGreatDoor
open Go.RowKit

theorem rep_set (t z : Nat) (Y : List Nat) : (List.replicate (t + 1) 0 ++ Y).set t z = List.replicate t 0 ++ z :: Y := by
  induction t with
  | zero => rfl
  | succ t ih => rw [List.replicate_succ, List.cons_append, List.set_cons_succ, ih, List.replicate_succ, List.cons_append]
theorem zeros_of {L : List Nat} {n : Nat} (h : Lt L) (hn : L.length = n) (hv : val L = 0) : L = List.replicate n 0 :=
  val_inj h (Lt.replicate n) (by simpa using hn) (by rw [hv, val_replicate])

set_option maxRecDepth 100000 in
set_option maxHeartbeats 2000000 in
theorem nat_Mod (p lb k c v q lc kx c' u pm pn ln n m m0 : Nat) (odd : Bool) (rv : Value) (w : World) (hx : NatV w p lb k c v) (hq : NatV w q lc kx c' u) (hm : ModB w pm pn ln n m odd m0 rv)
    (hl : ln ≠ lb) (hlc : lc ≠ lb) (hpq : p ≠ q) (hpn : p ≠ pn) (hc : n ≤ c) (hc2 : c ≤ 1000) (hkx : kx ≤ 1000) (hn : 0 < n) (hbig : BB ^ (n - 1) ≤ m) (hm0 : 0 < m) :
    Calls Tryz.prog 70 #[.pointer (some ⟨p, 0, none⟩), .pointer (some ⟨q, 0, none⟩), .pointer (some ⟨pm, 0, none⟩)] w fun e w' =>
      e = .returned (.pointer (some ⟨p, 0, none⟩)) ∧ NatV w' p lb n c (u % m) ∧ Keeps [p, lb] w w' := by
  have hn32 := hm.nat.le
  have gq := hq.le
  have hpm := hm.ne_hdr hx
  have hpm2 := hm.ne_row hx
  have n1 : p ≠ lc := hx.ne2 hq
  have n2 : q ≠ lb := hq.ne2 hx
  have n3 : pn ≠ lb := hm.nat.ne2 hx
  have n4 : p ≠ ln := hx.ne2 hm.nat
  have KM : Hid (∀ a b, ModB a pm pn ln n m odd m0 rv → Keeps [p, lb] a b → ModB b pm pn ln n m odd m0 rv) := Lib.hid fun a b h hk => h.keeps hk (by simp [hpm, hpm2]) (by simp [Ne.symm hpn, n3]) (by simp [Ne.symm n4, hl])
  have KM1 : Hid (∀ a b, ModB a pm pn ln n m odd m0 rv → Keeps [lb] a b → ModB b pm pn ln n m odd m0 rv) := Lib.hid fun a b h hk => h.keeps hk (by simp [hpm2]) (by simp [n3]) (by simp [hl])
  go_enter Tryz.func70, Tryz.ntmps70
  go_wp2_with fail
  refine (nat_resetFor p lb k c v pm pn ln n m m0 odd rv _ hx hm hc hc2).mono ?_
  rintro e w1 ⟨rfl, hx1, hk1⟩
  have hm1 := KM.out _ _ hm hk1
  have hq1 := hq.keeps hk1 (by simp [Ne.symm hpq, n2]) (by simp [Ne.symm n1, hlc])
  have cq := hq1.hdr.cell
  have cm := hm1.hdr.c0
  have cn := hm1.nat.hdr.cell
  have HP := Lib.hid hx1.hdr; have HQ := Lib.hid hq1.hdr; have HM := Lib.hid hm1
  have hpne := hx1.ne
  obtain ⟨_, L, J, hL1, hL2, hL3, hL4, hL5⟩ := hx1
  obtain ⟨_, Lx, Jx, hx1, hx2, hx3, hx4, hx5⟩ := hq1
  obtain rfl := zeros_of hL4 hL2 hL5
  have KX2 := Lib.hid hx2; have KX3 := Lib.hid hx3; have KX5 := Lib.hid hx5; have KL3 := Lib.hid hL3
  have HK1 := Lib.hid hk1
  clear hx hq hm hm1 hx2 hx3 hx5 hL2 hL3 hL5 hk1
  obtain ⟨T0, d, hT, hcs⟩ : ∃ T0 d, T0 + d = kx ∧ ((kx + 1 < n ∧ T0 = kx) ∨ (¬ kx + 1 < n ∧ T0 + 1 = n)) := by
    by_cases h : kx + 1 < n
    · exact ⟨kx, 0, by omega, .inl ⟨h, rfl⟩⟩
    · exact ⟨n - 1, kx - (n - 1), by omega, .inr ⟨h, by omega⟩⟩
  have hTn : T0 < n := by omega
  have HB := Lib.hid hbig
  clear hbig
  rcases hcs with ⟨h1, h2⟩ | ⟨h1, h2⟩
  · have d1 : decide ((kx : Int) - 1 < (n : Int) - 2) = true := by simp; omega
    go_wp2_with fail
    clear d1 h1
    have H2 := Lib.hid h2
    clear h2
    clear cq cm cn
    go_loopg [7, 9] T0 (fun gn iv jv wx => ∃ (t : Nat) (I Jv : Int), gn = t ∧ iv = .int .i64 I ∧ jv = .int .i64 Jv ∧ Hid (I = ((d + t : Nat) : Int) - 1) ∧ Hid (Jv = (t : Int) - 1) ∧ t ≤ T0 ∧ Hid (Row wx lb ((List.replicate t 0 ++ (Lx.drop (d + t) ++ List.replicate (n - T0) 0)) ++ J)) ∧ Hid (Keeps [lb] w1 wx))
    case atStart =>
      refine ⟨T0, _, _, rfl, rfl, rfl, Lib.hid (by omega), Lib.hid (by have := H2.out; omega), Nat.le_refl _, Lib.hid ?_, Lib.hid (Keeps.refl _ _)⟩
      rw [List.drop_of_length_le (by have := KX2.out; omega), List.nil_append, List.replicate_append_replicate, show T0 + (n - T0) = n by omega]
      exact hL1
    case round =>
      obtain ⟨t, I, Jv, hgt, rfl, rfl, hI, hJv, ht, hR, hK⟩ := hrel
      cases t with
      | zero =>
        have i1 : decide (0 ≤ Jv) = false := by have := hJv.out; simp; omega
        go_wp2_with fail
        have hval : Hid (val (Lx.drop d) = val (Lx.drop d) % m) := by
          refine Lib.hid (Nat.mod_eq_of_lt ?_).symm
          have h1 := val_lt (hx4.drop d)
          have h2 : (Lx.drop d).length = T0 := by have := KX2.out; simp; omega
          rw [h2] at h1
          exact Nat.lt_of_lt_of_le h1 (Nat.le_trans (Nat.pow_le_pow_right BB_pos (by omega)) HB.out)
        have hnat : Hid (NatV wr p lb n c (val (Lx.drop d) % m)) := by
          refine Lib.hid ⟨HP.out.keeps hK.out (by simp [hpne]), Lx.drop d ++ List.replicate (n - T0) 0, J, by simpa using hR.out, by have := KX2.out; simp; omega, by have := KL3.out; have := KX2.out; simp at *; omega, (hx4.drop d).append (Lt.replicate _), ?_⟩
          rw [val_append, val_replicate, Nat.mul_zero, Nat.add_zero]; exact hval.out
        have hK0 : Hid (Keeps [p, lb] w1 wr) := Lib.hid (hK.out.mono (by simp))
        clear hR hK hval
        go_loopg [7] d (fun gn iv wx => ∃ (t : Nat) (I : Int), gn = t ∧ iv = .int .i64 I ∧ Hid (I = (t : Int) - 1) ∧ t ≤ d ∧ Hid (NatV wx p lb n c (val (Lx.drop t) % m)) ∧ Hid (Keeps [p, lb] w1 wx))
        case atStart => exact ⟨d, I, rfl, rfl, Lib.hid (by have := hI.out; omega), Nat.le_refl _, hnat, hK0⟩
        case round =>
          clear hnat hK0 hI
          obtain ⟨t, I, hgt, rfl, hI, ht, hN, hK⟩ := hrel
          cases t with
          | zero =>
            have i2 : decide (0 ≤ I) = false := by have := hI.out; simp; omega
            go_wp2_with fail
            go_ret
            have e1 : val (Lx.drop 0) = u := by rw [List.drop_zero]; exact KX5.out
            refine ⟨rfl, ?_, HK1.out.trans1 hK.out⟩
            rw [← e1]; exact hN.out
          | succ t =>
            obtain rfl : I = (t : Int) := by have := hI.out; omega
            have hmw := KM.out _ _ HM.out hK.out
            have a1 := (HQ.out.keeps hK.out (by simp [Ne.symm hpq, n2])).cell
            have a2 := (Row.keeps hx1 hK.out (by simp [Ne.symm n1, hlc])).cell t (by have := KX2.out; simp; omega)
            rw [List.getElem_append_left (by have := KX2.out; omega)] at a2
            have b1 := hx4.get t (by have := KX2.out; omega)
            obtain ⟨z, hz⟩ : ∃ x, Lx[t]'(by have := KX2.out; omega) = x := ⟨_, rfl⟩
            rw [hz] at a2 b1
            have HZ := Lib.hid hz; clear hz
            have HMW := Lib.hid hmw; clear hmw
            have a3 : t < kx := by omega
            go_wp2_with fail
            refine (nat_shiftIn p lb n c (val (Lx.drop (t + 1)) % m) z pm pn ln m m0 odd rv _ hN.out HMW.out hl hc2 (Nat.mod_lt _ hm0) b1).mono ?_
            rintro e w2 ⟨rfl, hN2, hk2⟩
            have HN2 := Lib.hid hN2
            have HK2 := Lib.hid (hK.out.trans1 (hk2.mono (T := [p, lb]) (by simp)))
            clear hN2 hk2 hN hK
            go_wp2_with fail
            go_roundg t
            case measure => omega
            case rel =>
              refine ⟨t, _, rfl, rfl, Lib.hid (by omega), by omega, Lib.hid ?_, HK2⟩
              have e1 : Lx.drop t = z :: Lx.drop (t + 1) := by rw [← HZ.out]; exact List.drop_eq_getElem_cons (by have := KX2.out; omega)
              have e2 : val (Lx.drop t) % m = (val (Lx.drop (t + 1)) % m * BB + z) % m := by
                rw [e1, val, Nat.add_mod (_ * BB), Nat.mul_mod, Nat.mod_mod, ← Nat.mul_mod, ← Nat.add_mod, Nat.mul_comm, Nat.add_comm]
              rw [e2]; exact HN2.out
      | succ t =>
        obtain rfl : Jv = (t : Int) := by have := hJv.out; omega
        obtain rfl : I = ((d + t : Nat) : Int) := by have := hI.out; omega
        have a1 := (HQ.out.keeps hK.out (by simp [n2])).cell
        have a0 := (HP.out.keeps hK.out (by simp [hpne])).cell
        have a2 := (Row.keeps hx1 hK.out (by simp [hlc])).cell (d + t) (by have := KX2.out; simp; omega)
        rw [List.getElem_append_left (by have := KX2.out; omega)] at a2
        obtain ⟨z, hz⟩ : ∃ x, Lx[d + t]'(by have := KX2.out; omega) = x := ⟨_, rfl⟩
        rw [hz] at a2
        have a3 := hR.out.free t
        have a4 := hR.out.cell t (by simp; omega)
        have a5 : d + t < kx := by omega
        have a6 : t < n := by omega
        have HZ := Lib.hid hz; clear hz
        go_wp2_with fail
        refine wp_region_txt [0,0,0,1,0,0,0,0,1,0,0,1,0,2] (fun _ => True) (by kernel_rfl) (by kernel_rfl) trivial ?_
        simp only [withMarks]
        repeat (first
          | ((with_reducible refine txt_v (v := ?_) ?_ ?_); (any_goals ((with_reducible refine Yl.mk ?_ ?_); rfl; intro w hSw; (go_simp <;> (try go_bits) <;> (repeat (first | rw [if_pos (by omega)] | rw [if_neg (by omega)])) <;> with_reducible rfl))); try simp only [Act.put, List.setIfInBounds_toArray, List.set_cons_zero, List.set_cons_succ])
          | ((with_reducible refine txt_u ?_ ?_); rfl; try simp only [Act.put, List.setIfInBounds_toArray, List.set_cons_zero, List.set_cons_succ])
          | ((with_reducible refine txt_l (v := ?_) ?_ ?_); (any_goals ((with_reducible refine Reads.mk ?_ ?_); rfl; (go_simp <;> (try go_bits) <;> (repeat (first | rw [if_pos (by omega)] | rw [if_neg (by omega)])) <;> with_reducible rfl))); try simp only [Act.put, List.setIfInBounds_toArray, List.set_cons_zero, List.set_cons_succ])
          | ((with_reducible refine txt_e ?_ ?_); rfl; intro K hK; go_simp; (first | (refine hK _ _ trivial ?_) | ((first | fail); dsimp only; refine hK _ _ trivial ?_)); clear hK K; try simp only [Act.put, List.setIfInBounds_toArray, List.set_cons_zero, List.set_cons_succ]))
        refine txt_nil ?_
        go_wp2_with fail
        go_roundg t
        case measure => omega
        case rel =>
          refine ⟨t, _, _, rfl, rfl, rfl, Lib.hid (by omega), Lib.hid (by omega), by omega, Lib.hid ?_, Lib.hid (hK.out.setCell (by simp) _).drew⟩
          have e1 : Lx.drop (d + t) = z :: Lx.drop (d + t + 1) := by rw [← HZ.out]; exact List.drop_eq_getElem_cons (by have := KX2.out; omega)
          have := (hR.out.set t z).drew
          rw [List.set_append_left _ _ (by simp; omega), rep_set] at this
          rw [e1]; exact this
  · have d1 : decide ((kx : Int) - 1 < (n : Int) - 2) = false := by simp; omega
    go_wp2_with fail
    clear d1 h1
    have H2 := Lib.hid h2
    clear h2
    clear cq cm cn
    go_loopg [7, 9] T0 (fun gn iv jv wx => ∃ (t : Nat) (I Jv : Int), gn = t ∧ iv = .int .i64 I ∧ jv = .int .i64 Jv ∧ Hid (I = ((d + t : Nat) : Int) - 1) ∧ Hid (Jv = (t : Int) - 1) ∧ t ≤ T0 ∧ Hid (Row wx lb ((List.replicate t 0 ++ (Lx.drop (d + t) ++ List.replicate (n - T0) 0)) ++ J)) ∧ Hid (Keeps [lb] w1 wx))
    case atStart =>
      refine ⟨T0, _, _, rfl, rfl, rfl, Lib.hid (by omega), Lib.hid (by have := H2.out; omega), Nat.le_refl _, Lib.hid ?_, Lib.hid (Keeps.refl _ _)⟩
      rw [List.drop_of_length_le (by have := KX2.out; omega), List.nil_append, List.replicate_append_replicate, show T0 + (n - T0) = n by omega]
      exact hL1
    case round =>
      obtain ⟨t, I, Jv, hgt, rfl, rfl, hI, hJv, ht, hR, hK⟩ := hrel
      cases t with
      | zero =>
        have i1 : decide (0 ≤ Jv) = false := by have := hJv.out; simp; omega
        go_wp2_with fail
        have hval : Hid (val (Lx.drop d) = val (Lx.drop d) % m) := by
          refine Lib.hid (Nat.mod_eq_of_lt ?_).symm
          have h1 := val_lt (hx4.drop d)
          have h2 : (Lx.drop d).length = T0 := by have := KX2.out; simp; omega
          rw [h2] at h1
          exact Nat.lt_of_lt_of_le h1 (Nat.le_trans (Nat.pow_le_pow_right BB_pos (by omega)) HB.out)
        have hnat : Hid (NatV wr p lb n c (val (Lx.drop d) % m)) := by
          refine Lib.hid ⟨HP.out.keeps hK.out (by simp [hpne]), Lx.drop d ++ List.replicate (n - T0) 0, J, by simpa using hR.out, by have := KX2.out; simp; omega, by have := KL3.out; have := KX2.out; simp at *; omega, (hx4.drop d).append (Lt.replicate _), ?_⟩
          rw [val_append, val_replicate, Nat.mul_zero, Nat.add_zero]; exact hval.out
        have hK0 : Hid (Keeps [p, lb] w1 wr) := Lib.hid (hK.out.mono (by simp))
        clear hR hK hval
        go_loopg [7] d (fun gn iv wx => ∃ (t : Nat) (I : Int), gn = t ∧ iv = .int .i64 I ∧ Hid (I = (t : Int) - 1) ∧ t ≤ d ∧ Hid (NatV wx p lb n c (val (Lx.drop t) % m)) ∧ Hid (Keeps [p, lb] w1 wx))
        case atStart => exact ⟨d, I, rfl, rfl, Lib.hid (by have := hI.out; omega), Nat.le_refl _, hnat, hK0⟩
        case round =>
          clear hnat hK0 hI
          obtain ⟨t, I, hgt, rfl, hI, ht, hN, hK⟩ := hrel
          cases t with
          | zero =>
            have i2 : decide (0 ≤ I) = false := by have := hI.out; simp; omega
            go_wp2_with fail
            go_ret
            have e1 : val (Lx.drop 0) = u := by rw [List.drop_zero]; exact KX5.out
            refine ⟨rfl, ?_, HK1.out.trans1 hK.out⟩
            rw [← e1]; exact hN.out
          | succ t =>
            obtain rfl : I = (t : Int) := by have := hI.out; omega
            have hmw := KM.out _ _ HM.out hK.out
            have a1 := (HQ.out.keeps hK.out (by simp [Ne.symm hpq, n2])).cell
            have a2 := (Row.keeps hx1 hK.out (by simp [Ne.symm n1, hlc])).cell t (by have := KX2.out; simp; omega)
            rw [List.getElem_append_left (by have := KX2.out; omega)] at a2
            have b1 := hx4.get t (by have := KX2.out; omega)
            obtain ⟨z, hz⟩ : ∃ x, Lx[t]'(by have := KX2.out; omega) = x := ⟨_, rfl⟩
            rw [hz] at a2 b1
            have HZ := Lib.hid hz; clear hz
            have HMW := Lib.hid hmw; clear hmw
            have a3 : t < kx := by omega
            go_wp2_with fail
            refine (nat_shiftIn p lb n c (val (Lx.drop (t + 1)) % m) z pm pn ln m m0 odd rv _ hN.out HMW.out hl hc2 (Nat.mod_lt _ hm0) b1).mono ?_
            rintro e w2 ⟨rfl, hN2, hk2⟩
            have HN2 := Lib.hid hN2
            have HK2 := Lib.hid (hK.out.trans1 (hk2.mono (T := [p, lb]) (by simp)))
            clear hN2 hk2 hN hK
            go_wp2_with fail
            go_roundg t
            case measure => omega
            case rel =>
              refine ⟨t, _, rfl, rfl, Lib.hid (by omega), by omega, Lib.hid ?_, HK2⟩
              have e1 : Lx.drop t = z :: Lx.drop (t + 1) := by rw [← HZ.out]; exact List.drop_eq_getElem_cons (by have := KX2.out; omega)
              have e2 : val (Lx.drop t) % m = (val (Lx.drop (t + 1)) % m * BB + z) % m := by
                rw [e1, val, Nat.add_mod (_ * BB), Nat.mul_mod, Nat.mod_mod, ← Nat.mul_mod, ← Nat.add_mod, Nat.mul_comm, Nat.add_comm]
              rw [e2]; exact HN2.out
      | succ t =>
        obtain rfl : Jv = (t : Int) := by have := hJv.out; omega
        obtain rfl : I = ((d + t : Nat) : Int) := by have := hI.out; omega
        have a1 := (HQ.out.keeps hK.out (by simp [n2])).cell
        have a0 := (HP.out.keeps hK.out (by simp [hpne])).cell
        have a2 := (Row.keeps hx1 hK.out (by simp [hlc])).cell (d + t) (by have := KX2.out; simp; omega)
        rw [List.getElem_append_left (by have := KX2.out; omega)] at a2
        obtain ⟨z, hz⟩ : ∃ x, Lx[d + t]'(by have := KX2.out; omega) = x := ⟨_, rfl⟩
        rw [hz] at a2
        have a3 := hR.out.free t
        have a4 := hR.out.cell t (by simp; omega)
        have a5 : d + t < kx := by omega
        have a6 : t < n := by omega
        have HZ := Lib.hid hz; clear hz
        go_wp2_with fail
        refine wp_region_txt [0,0,0,1,0,0,0,0,1,0,0,1,0,2] (fun _ => True) (by kernel_rfl) (by kernel_rfl) trivial ?_
        simp only [withMarks]
        repeat (first
          | ((with_reducible refine txt_v (v := ?_) ?_ ?_); (any_goals ((with_reducible refine Yl.mk ?_ ?_); rfl; intro w hSw; (go_simp <;> (try go_bits) <;> (repeat (first | rw [if_pos (by omega)] | rw [if_neg (by omega)])) <;> with_reducible rfl))); try simp only [Act.put, List.setIfInBounds_toArray, List.set_cons_zero, List.set_cons_succ])
          | ((with_reducible refine txt_u ?_ ?_); rfl; try simp only [Act.put, List.setIfInBounds_toArray, List.set_cons_zero, List.set_cons_succ])
          | ((with_reducible refine txt_l (v := ?_) ?_ ?_); (any_goals ((with_reducible refine Reads.mk ?_ ?_); rfl; (go_simp <;> (try go_bits) <;> (repeat (first | rw [if_pos (by omega)] | rw [if_neg (by omega)])) <;> with_reducible rfl))); try simp only [Act.put, List.setIfInBounds_toArray, List.set_cons_zero, List.set_cons_succ])
          | ((with_reducible refine txt_e ?_ ?_); rfl; intro K hK; go_simp; (first | (refine hK _ _ trivial ?_) | ((first | fail); dsimp only; refine hK _ _ trivial ?_)); clear hK K; try simp only [Act.put, List.setIfInBounds_toArray, List.set_cons_zero, List.set_cons_succ]))
        refine txt_nil ?_
        go_wp2_with fail
        go_roundg t
        case measure => omega
        case rel =>
          refine ⟨t, _, _, rfl, rfl, rfl, Lib.hid (by omega), Lib.hid (by omega), by omega, Lib.hid ?_, Lib.hid (hK.out.setCell (by simp) _).drew⟩
          have e1 : Lx.drop (d + t) = z :: Lx.drop (d + t + 1) := by rw [← HZ.out]; exact List.drop_eq_getElem_cons (by have := KX2.out; omega)
          have := (hR.out.set t z).drew
          rw [List.set_append_left _ _ (by simp; omega), rep_set] at this
          rw [e1]; exact this

end Go.Proofs.YtnfjmngchapdnaaGreatDoor
