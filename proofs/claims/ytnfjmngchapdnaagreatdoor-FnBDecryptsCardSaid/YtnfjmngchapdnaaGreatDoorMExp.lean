import Derived.Test.YtnfjmngchapdnaaGreatDoorMExpS
/- bigmod: Exp (a table of 15 powers, four bits at a time). -/
namespace Go.Proofs.YtnfjmngchapdnaaGreatDoor
open Go.RowKit

set_option maxRecDepth 100000 in
set_option maxHeartbeats 4000000 in
theorem nat_Exp (p lb k v0 q lq c v pm pn ln pr lr n m m0 mb cb : Nat) (a : Option Addr) (L : List Nat) (w : World) (ho : NatV w p lb k 32 v0) (hx : NatV w q lq n c v) (hm : ModO w pm pn ln pr lr n m m0) (hl : ln ≠ lb) (hl2 : lr ≠ lb) (hs : SlB w a mb cb L) (hmb : mb ≤ 8000) :
    Calls Tryz.prog 72 #[.pointer (some ⟨p, 0, none⟩), .pointer (some ⟨q, 0, none⟩), .slice a mb cb, .pointer (some ⟨pm, 0, none⟩)] w fun e w' =>
      e = .returned (.pointer (some ⟨p, 0, none⟩)) ∧ NatV w' p lb n 32 (v ^ bval L % m) ∧ Keeps [p, lb] w w' := by
  have hn31 := hm.n31
  have hnc := hx.le
  have c1 := hm.b.hdr.c1
  obtain ⟨B, hB⟩ : ∃ B, w.heap.size = B := ⟨_, rfl⟩
  have hz : TabZ w w B 0 := ⟨hB, fun i hi => absurd hi (by omega), Keeps.refl _ _⟩
  go_enter Tryz.func72, Tryz.ntmps72
  go_wp2_with fail
  refine (newNat_tab B 0 (B + 1) w _ hz (by omega)).mono ?_
  clear hz
  rintro e w1 ⟨rfl, hz⟩
  go_wp2_with fail
  refine (newNat_tab B 1 (B + 3) w _ hz (by omega)).mono ?_
  clear hz
  rintro e w2 ⟨rfl, hz⟩
  go_wp2_with fail
  refine (newNat_tab B 2 (B + 5) w _ hz (by omega)).mono ?_
  clear hz
  rintro e w3 ⟨rfl, hz⟩
  go_wp2_with fail
  refine (newNat_tab B 3 (B + 7) w _ hz (by omega)).mono ?_
  clear hz
  rintro e w4 ⟨rfl, hz⟩
  go_wp2_with fail
  refine (newNat_tab B 4 (B + 9) w _ hz (by omega)).mono ?_
  clear hz
  rintro e w5 ⟨rfl, hz⟩
  go_wp2_with fail
  refine (newNat_tab B 5 (B + 11) w _ hz (by omega)).mono ?_
  clear hz
  rintro e w6 ⟨rfl, hz⟩
  go_wp2_with fail
  refine (newNat_tab B 6 (B + 13) w _ hz (by omega)).mono ?_
  clear hz
  rintro e w7 ⟨rfl, hz⟩
  go_wp2_with fail
  refine (newNat_tab B 7 (B + 15) w _ hz (by omega)).mono ?_
  clear hz
  rintro e w8 ⟨rfl, hz⟩
  go_wp2_with fail
  refine (newNat_tab B 8 (B + 17) w _ hz (by omega)).mono ?_
  clear hz
  rintro e w9 ⟨rfl, hz⟩
  go_wp2_with fail
  refine (newNat_tab B 9 (B + 19) w _ hz (by omega)).mono ?_
  clear hz
  rintro e w10 ⟨rfl, hz⟩
  go_wp2_with fail
  refine (newNat_tab B 10 (B + 21) w _ hz (by omega)).mono ?_
  clear hz
  rintro e w11 ⟨rfl, hz⟩
  go_wp2_with fail
  refine (newNat_tab B 11 (B + 23) w _ hz (by omega)).mono ?_
  clear hz
  rintro e w12 ⟨rfl, hz⟩
  go_wp2_with fail
  refine (newNat_tab B 12 (B + 25) w _ hz (by omega)).mono ?_
  clear hz
  rintro e w13 ⟨rfl, hz⟩
  go_wp2_with fail
  refine (newNat_tab B 13 (B + 27) w _ hz (by omega)).mono ?_
  clear hz
  rintro e w14 ⟨rfl, hz⟩
  go_wp2_with fail
  refine (newNat_tab B 14 (B + 29) w _ hz (by omega)).mono ?_
  clear hz
  rintro e w15 ⟨rfl, hz⟩
  have hn0 := hm.npos
  have hm0 : 0 < m := by have := hm.gt; omega
  have ox : ∀ j, p ≠ B + j ∧ lb ≠ B + j := fun j => ho.old (by omega)
  have om : ∀ j, pm ≠ B + j ∧ pn ≠ B + j ∧ ln ≠ B + j ∧ pr ≠ B + j ∧ lr ≠ B + j := fun j => hm.old (by omega)
  have oq : ∀ j, q ≠ B + j ∧ lq ≠ B + j := fun j => hx.old (by omega)
  have s1 := hm.b.ne_hdr ho
  have s2 := hm.b.ne_row ho
  have s3 := hm.b.nat.ne_p ho hl
  have s4 := hm.b.nat.ne2 ho
  have s5 := hm.rr.ne_p ho hl2
  have s6 := hm.rr.ne2 ho
  have s7 := ho.ne2 hm.b.nat
  have s8 := ho.ne2 hm.rr
  have KM : Hid (∀ w1 w2, ModO w1 pm pn ln pr lr n m m0 → Keeps [p, lb] w1 w2 → ModO w2 pm pn ln pr lr n m m0) := Lib.hid fun w1 w2 h hk =>
    h.keeps hk (by simp [s1, s2]) (by simp [s3, s4]) (by simp [hl]; exact fun h => s7 h.symm) (by simp [s5, s6]) (by simp [hl2]; exact fun h => s8 h.symm)
  have KM2 : Hid (∀ w1 w2 i j, ModO w1 pm pn ln pr lr n m m0 → Keeps [B + i, B + j] w1 w2 → ModO w2 pm pn ln pr lr n m m0) := Lib.hid fun w1 w2 i j h hk =>
    h.keeps hk (by simp [(om i).1, (om j).1]) (by simp [(om i).2.1, (om j).2.1]) (by simp [(om i).2.2.1, (om j).2.2.1]) (by simp [(om i).2.2.2.1, (om j).2.2.2.1]) (by simp [(om i).2.2.2.2, (om j).2.2.2.2])
  have hk15 := hz.keeps
  have hm15 := hm.kept hk15; have hx15 := hx.kept hk15; have ho15 := ho.kept hk15
  have hs15 := hs.kept hk15
  go_wp2_with fail
  obtain ⟨tb, htb⟩ : ∃ tb, tb = w15.heap.size := ⟨_, rfl⟩
  have htB : tb = B + 30 := by rw [htb, hz.size]
  obtain ⟨w16, hw16⟩ : ∃ w16, w16 = w15.alloc (.cells (tabArr B) 136) := ⟨_, rfl⟩
  have hka : Keeps [] w15 w16 := by rw [hw16]; exact (Keeps.refl _ _).alloc _
  have hT : Tab15 w16 B tb 0 n (fun i => (v ^ (i + 1) * BB ^ n) % m) := by
    refine ⟨?_, fun i hi => absurd hi (by omega), fun i _ hi => (hz.nats i hi).kept hka⟩
    rw [hw16, htb]
    show (w15.heap.push _)[w15.heap.size]? = _
    rw [Array.getElem?_push, if_pos rfl]
  rw [tabArr] at hw16
  rw [← hw16, ← htb]
  have hm16 := hm15.kept hka; have hx16 := hx15.kept hka; have ho16 := ho15.kept hka; have hs16 := hs15.kept hka
  have hk16 := hk15.trans1 hka
  clear htb
  subst htB
  clear hw16 hz hm15 hx15 ho15 hs15 hk15 hka c1
  have hT0 := hT.new 0 (by omega) (by omega)
  simp only [Nat.mul_zero, Nat.add_zero] at hT0
  refine (nat_set (B + 1) B q lq 0 n 32 c 0 v _ hT0 hx16 (by omega) (by omega) (oq 1).1 (oq 0).1 (oq 1).2 (oq 0).2).mono ?_
  rintro e w17 ⟨rfl, hr17, hk17⟩
  go_wp2_with fail
  have hm17 := KM2.out _ _ 1 0 hm16 hk17
  refine (nat_montRep_gen (B + 1) B 32 v pm pn ln pr lr n m m0 _ hr17 hm17 (om 0).2.2.1 (by omega)).mono ?_
  rintro e w18 ⟨rfl, hr18, hk18⟩
  have hm18 := KM2.out _ _ 1 0 hm17 hk18
  have hkA := hk17.trans1 hk18
  have hkZ : Keeps [] w w18 := hk16.trans hkA (by intro x hx hlt; simp at hx; omega)
  have hT18 : Tab15 w18 B (B + 30) 1 n (fun i => (v ^ (i + 1) * BB ^ n) % m) := by
    refine ⟨blk_keeps hT.blk hkA (by simp), fun i hi => ?_, fun i h1 h2 => (hT.new i (by omega) h2).keeps hkA (by simp; omega) (by simp; omega)⟩
    have : i = 0 := by omega
    subst this
    simpa using hr18
  have HB := Lib.hid hB
  have HM := Lib.hid hm; have HO := Lib.hid ho; have HS := Lib.hid hs; have HK := Lib.hid hkZ; have HT := Lib.hid hT18
  clear hm18 hm17 hm16 hx16 ho16 hs16 hk16 hk17 hk18 hkA hkZ hT hT18 hT0 hr17 hr18 hm hx ho hs hB
  go_wp2_with fail
  go_loopg [10] 14 (fun gn iv wx => ∃ i : Nat, gn = 14 - i ∧ iv = .int .i64 ((i : Int) + 1) ∧ i ≤ 14 ∧ Hid (Tab15 wx B (B + 30) (i + 1) n (fun i => (v ^ (i + 1) * BB ^ n) % m)) ∧ Hid (Keeps [] w wx))
  case atStart => exact ⟨0, rfl, by go_num, by omega, HT, HK⟩
  case round =>
    clear HT HK
    obtain ⟨i, hgi, rfl, hi, hT, hK⟩ := hrel
    by_cases hlt : i < 14
    · have i1 : (i : Int) + 1 < 15 := by omega
      have f1 : ((i : Int) + 1).toNat = i + 1 := by omega
      have f0 : (0 : Int) ≤ (i : Int) + 1 := by omega
      have f2 : i + 1 < 15 := by omega
      have f3 : i < 15 := by omega
      have a1 := hT.out.cell (i + 1) (by omega)
      have a2 := hT.out.cell i (by omega)
      have a3 := hT.out.cell 0 (by omega)
      have hmi := HM.out.kept hK.out
      have hTi := hT.out.set i (by omega)
      have hT0 := hT.out.set 0 (by omega)
      have hTn := hT.out.new (i + 1) (by omega) (by omega)
      simp only [Nat.mul_zero, Nat.add_zero, Nat.zero_add] at hT0 a3
      have HTi := Lib.hid hTi; have HT0 := Lib.hid hT0; have HTn := Lib.hid hTn; have HMi := Lib.hid hmi
      clear hTi hT0 hTn hmi
      go_wp2_with fail
      refine wp_region_txt [0,0,1,0,0,0,1,0,1,0,2] (fun _ => True) (by kernel_rfl) (by kernel_rfl) trivial ?_
      simp only [withMarks]
      repeat (first
        | ((with_reducible refine txt_v (v := ?_) ?_ ?_); (any_goals ((with_reducible refine Yl.mk ?_ ?_); rfl; intro w hSw; (go_simp <;> (try go_bits) <;> (repeat (first | rw [if_pos (by omega)] | rw [if_neg (by omega)])) <;> with_reducible rfl))); try simp only [Act.put, List.setIfInBounds_toArray, List.set_cons_zero, List.set_cons_succ])
        | ((with_reducible refine txt_u ?_ ?_); rfl; try simp only [Act.put, List.setIfInBounds_toArray, List.set_cons_zero, List.set_cons_succ])
        | ((with_reducible refine txt_l (v := ?_) ?_ ?_); (any_goals ((with_reducible refine Reads.mk ?_ ?_); rfl; (go_simp <;> (try go_bits) <;> (repeat (first | rw [if_pos (by omega)] | rw [if_neg (by omega)])) <;> with_reducible rfl))); try simp only [Act.put, List.setIfInBounds_toArray, List.set_cons_zero, List.set_cons_succ])
        | ((with_reducible refine txt_e ?_ ?_); rfl; intro K hK; go_simp; (first | (refine hK _ _ trivial ?_) | ((first | (go_at_call 94; refine (mont_any (B + 2 * (i + 1) + 1) (B + 2 * (i + 1)) 0 32 0 (B + 2 * i + 1) (B + 2 * i) 32 ((v ^ (i + 1) * BB ^ n) % m) (B + 1) B 32 ((v ^ (0 + 1) * BB ^ n) % m) pm pn ln n m m0 true _ _ HTn.out.drew HTi.out.drew HT0.out.drew ⟨HMi.out.b.hdr, HMi.out.b.nat.drew⟩ HMi.out.inv (om _).2.2.1 (by omega) (by omega) (Nat.mod_lt _ hm0) hn31).mono ?_; rintro e2 w2 ⟨rfl, v', hv1, hv2, hx2, hk2⟩)); dsimp only; refine hK _ _ trivial ?_)); clear hK K; try simp only [Act.put, List.setIfInBounds_toArray, List.set_cons_zero, List.set_cons_succ]))
      refine txt_nil ?_
      have hv' : v' = (v ^ (i + 1 + 1) * BB ^ n) % m := mont_unique (n := n) HM.out.odd hv1 (by rw [hv2]; exact exp_tab)
      subst hv'
      have HT2 : Hid (Tab15 w2 B (B + 30) (i + 1 + 1) n (fun i => (v ^ (i + 1) * BB ^ n) % m)) := by
        have h0 : Tab15 (World.drew wr) B (B + 30) (i + 1) n (fun i => (v ^ (i + 1) * BB ^ n) % m) := ⟨hT.out.blk, fun i hi => (hT.out.set i hi).drew, fun i h1 h2 => (hT.out.new i h1 h2).drew⟩
        exact Lib.hid (h0.next hk2 hx2 rfl (by omega))
      have HK2 : Hid (Keeps [] w w2) := Lib.hid (hK.out.drew.trans hk2 (by intro x hx hlt; simp at hx; have := HB.out; omega))
      clear hx2 hk2 hv1 hv2 hT hK a1 a2 a3
      go_wp2_with fail
      go_roundg (14 - (i + 1))
      case measure => omega
      case rel => exact ⟨i + 1, rfl, by go_num, by omega, HT2, HK2⟩
    · obtain rfl : i = 14 := by omega
      have i1 : ¬ ((14 : Int) + 1 < 15) := by omega
      have hmi := HM.out.kept hK.out
      have hoi := HO.out.kept hK.out
      have hki := hK.out
      go_wp2_with fail
      refine (nat_resetFor p lb k 32 v0 pm pn ln n m m0 true _ _ hoi hmi.b (by omega) (by omega)).mono ?_
      rintro e w2 ⟨rfl, ho2, hk2⟩
      have hm2 := KM.out _ _ hmi hk2
      have c1 := ho2.hdr.cell
      have hp2 := ho2.hdr
      have hpne := ho2.ne
      obtain ⟨_, L0, J, hL1, hL2, hL3, hL4, hL5⟩ := ho2
      obtain rfl := zeros_of hL4 hL2 hL5
      have c2 := hL1.cell 0 (by simp; omega)
      have c3 := hL1.free 0
      go_wp2_with fail
      obtain ⟨n', rfl⟩ : ∃ n', n = n' + 1 := ⟨n - 1, by omega⟩
      have hk3 : Keeps [p, lb] w2 (w2.setCell ⟨lb, 0, none⟩ (.int .u64 ((1 : Nat) : Int))) := (Keeps.refl _ _).setCell (by simp) _
      have ho3 : NatV (w2.setCell ⟨lb, 0, none⟩ (.int .u64 ((1 : Nat) : Int))) p lb (n' + 1) 32 1 := by
        refine ⟨hp2.other (a := ⟨lb, 0, none⟩) hpne _, 1 :: List.replicate n' 0, J, ?_, by simp, by simpa using hL3, Lt.cons (by unfold BB; omega) (Lt.replicate _), by rw [val, val_replicate, Nat.mul_zero]⟩
        have := hL1.set 0 1
        rw [List.replicate_succ, List.cons_append, List.set_cons_zero] at this
        exact this
      have hm3 := KM.out _ _ hm2 hk3
      refine (nat_montRep_gen p lb 32 1 pm pn ln pr lr (n' + 1) m m0 _ ho3 hm3 hl (by omega)).mono ?_
      rintro e w4 ⟨rfl, ho4, hk4⟩
      have hm4 := KM.out _ _ hm3 hk4
      go_wp2_with fail
      refine (newNat_any _).mono ?_
      rintro e w5 ⟨pt, lt, rfl, ht, hpt, hlt, hk5⟩
      have hm5 := hm4.kept hk5
      go_wp2_with fail
      refine (nat_ExpandFor pt lt 0 0 pm pn ln (n' + 1) m m0 true _ _ ht hm5.b (by omega) (by omega)).mono ?_
      rintro e w6 ⟨rfl, ht6, hk6⟩
      have hsz : B + 31 ≤ wr.heap.size := by
        have := lt_of_block hT.out.blk; omega
      have hk35 := (hk2.trans1 hk3).trans1 hk4
      have hk25 : Keeps [p, lb] wr w5 := hk35.trans hk5 (by simp)
      have hz5 := hk35.size
      have hk26 : Keeps [p, lb] wr w6 := hk25.trans hk6 (by intro x hx hlt2; simp at hx; omega)
      have ho6 : NatV w6 p lb (n' + 1) 32 ((1 * BB ^ (n' + 1)) % m) := by
        have e1 := ho4.old hpt; have e2 := ho4.old hlt
        exact (ho4.kept hk5).keeps hk6 (by simp [e1.1, e2.1]) (by simp [e1.2, e2.2])
      have hm6 := KM.out _ _ hmi hk26
      have hT6 := hT.out.keeps hk26 (by intro x hx; simp at hx; rcases hx with rfl | rfl <;> (have := HB.out; have := HO.out.plt; have := HO.out.blt; omega)) (by omega)
      have hE : ExpE B p lb pt lt pm pn ln pr lr := by
        have q1 := HO.out.plt; have q2 := HO.out.blt; have q3 := HB.out
        have r1 := (om (pm - B)).1; have r2 := (om (pn - B)).2.1; have r3 := (om (ln - B)).2.2.1; have r4 := (om (pr - B)).2.2.2.1; have r5 := (om (lr - B)).2.2.2.2
        refine ⟨by omega, by omega, by omega, by omega, fun x hx => ?_⟩
        simp at hx
        rcases hx with rfl | rfl | rfl | rfl | rfl <;> omega
      have HE := Lib.hid hE
      have HS0 : Hid (ExpS w w6 B p lb pt lt pm pn ln pr lr (n' + 1) m m0 v 0) := Lib.hid ⟨by rw [Nat.pow_zero]; exact ho6, ⟨0, ht6⟩, hT6, hm6, (hki.mono (by simp)).trans1 hk26⟩
      obtain ⟨hLn, hmc, hLb, hLp⟩ := HS.out
      have HLn := Lib.hid hLn; have HLp := Lib.hid hLp; have HLb := Lib.hid hLb
      clear hLn hLb hLp hm6 hT6 ho6 hk26 hz5 hk25 hk35 hsz ht6 hk6 hm5 hk5 ht hpt hlt hm4 hk4 ho4 hm3 ho3 hk3 c3 c2 hL4 hL3 hL2 hL1 hL5 hpne hp2 c1 hm2 hk2 hki hoi hmi i1 hE hT hK s1 s2 s3 s4 s5 s6 s7 s8 om ox oq KM KM2
      go_wp2_with fail
      go_loopg [77] mb (fun gn iv wx => ∃ i : Nat, gn = mb - i ∧ iv = .int .i64 (i : Int) ∧ i ≤ mb ∧ Hid (ExpS w wx B p lb pt lt pm pn ln pr lr (n' + 1) m m0 v (bval (L.take i))))
      case atStart => exact ⟨0, rfl, rfl, Nat.zero_le _, HS0⟩
      case round =>
        clear HS0
        obtain ⟨i, hgi, rfl, hi, hS⟩ := hrel
        by_cases hlt : i < mb
        · have hLe : L ≠ [] := by intro h; have := HLn.out; rw [h] at this; simp at this; omega
          obtain ⟨ab, ob, rfl, hab, hBy⟩ := HLp.out hLe
          have hlL : i < L.length := by have := HLn.out; omega
          have hxl := HLb.out.get i hlL
          obtain ⟨x, hx⟩ : ∃ x, x = L[i] := ⟨_, rfl⟩
          rw [← hx] at hxl
          have hb1 : ab ≠ p := hBy.ne_hdr hLe HO.out.hdr
          have hb2 : ab ≠ lb := by obtain ⟨M, hM⟩ := HO.out.row'; exact hBy.ne_row hLe hM
          have cby : wr.cell? ⟨ab, ob + i, none⟩ = some (.int .u8 (x : Int)) := by
            rw [hx]; exact (hBy.keeps hab hS.out.k (by simp; exact ⟨hb1, hb2⟩)) i hlL
          have HX := Lib.hid hx
          clear hx hBy hLe
          go_wp2_with fail
          obtain ⟨nb, hnb⟩ : ∃ nb, nb = wr.heap.size := ⟨_, rfl⟩
          obtain ⟨wa, hwa⟩ : ∃ wa, wa = wr.alloc (.cells #[.int .i64 4, .int .i64 0] 3) := ⟨_, rfl⟩
          have hSa : Hid (ExpS w wa B p lb pt lt pm pn ln pr lr (n' + 1) m m0 v (expE (bval (L.take i)) x 0)) := Lib.hid (by rw [hwa]; exact hS.out.kept ((Keeps.refl _ _).alloc _))
          have hNa : Hid (wa.heap[nb]? = some (.cells #[.int .i64 4, .int .i64 0] 3 (0, 0))) := Lib.hid (by
            rw [hwa, hnb]
            show (wr.heap.push _)[wr.heap.size]? = _
            rw [Array.getElem?_push, if_pos rfl])
          have hNn : Hid (p ≠ nb ∧ lb ≠ nb ∧ pt ≠ nb ∧ lt ≠ nb) := Lib.hid (by
            obtain ⟨u, hu⟩ := hS.out.t
            have q1 := hS.out.o.plt; have q2 := hS.out.o.blt; have q3 := hu.plt; have q4 := hu.blt
            omega)
          rw [← hwa, ← hnb]
          clear hwa hnb hS cby
          go_loopg [83] 2 (fun gn tv wx => ∃ t : Nat, gn = 2 - t ∧ tv = .int .i64 (t : Int) ∧ t ≤ 2 ∧ Hid (ExpS w wx B p lb pt lt pm pn ln pr lr (n' + 1) m m0 v (expE (bval (L.take i)) x t)) ∧ Hid (wx.heap[nb]? = some (.cells #[.int .i64 4, .int .i64 0] 3 (0, 0))))
          case atStart => exact ⟨0, rfl, rfl, by omega, hSa, hNa⟩
          case round =>
            clear hSa hNa
            obtain ⟨t, hgt, rfl, ht2, hS, hN⟩ := hrel
            have ht3 : t = 0 ∨ t = 1 ∨ t = 2 := by omega
            rcases ht3 with rfl | rfl | rfl
            · have c4 : wr.cell? ⟨nb, 0, none⟩ = some (.int .i64 4) := by simp [World.cell?, hN.out]
              go_wp2_with fail
              refine (exp_sq1 HE.out hS.out).mono ?_
              rintro e w21 ⟨rfl, hs1, hq1⟩
              clear c4
              go_wp2_with fail
              refine (exp_sq1 HE.out hs1).mono ?_
              rintro e w22 ⟨rfl, hs2, hq2⟩
              clear hs1
              go_wp2_with fail
              refine (exp_sq1 HE.out hs2).mono ?_
              rintro e w23 ⟨rfl, hs3, hq3⟩
              clear hs2
              go_wp2_with fail
              refine (exp_sq1 HE.out hs3).mono ?_
              rintro e w24 ⟨rfl, hs4, hq4⟩
              clear hs3
              obtain ⟨E, hE⟩ : ∃ E, E = expE (bval (L.take i)) x 0 := ⟨_, rfl⟩
              obtain ⟨kk, hkk⟩ : ∃ kk : Nat, kk = x / 16 := ⟨_, rfl⟩
              have hk16 : kk < 16 := by omega
              have hs5 : Hid (ExpS w w24 B p lb pt lt pm pn ln pr lr (n' + 1) m m0 v (16 * E)) := Lib.hid (by
                rw [show 16 * E = 2 * (2 * (2 * (2 * E))) by omega, hE]; exact hs4)
              have hN4 := Lib.hid (blk_keeps hN.out (((hq1.trans1 hq2).trans1 hq3).trans1 hq4) (by have := hNn.out; simp; omega))
              obtain ⟨u0, hu0⟩ := hs4.t
              have HU0 := Lib.hid hu0
              clear hs4 hq1 hq2 hq3 hq4 hN hS hu0
              have HEE := Lib.hid hE
              clear hE
              go_wp2_with fail
              have ekk : (x : Int) / 16 % 16 = (kk : Int) := by omega
              simp only [ekk]
              have HKK := Lib.hid hkk
              clear hkk ekk
              go_loopg [112] 15 (fun gn cv wx => ∃ c u : Nat, gn = 15 - c ∧ cv = .int .i64 (c : Int) ∧ c ≤ 15 ∧ Hid (NatV wx pt lt (n' + 1) 32 u) ∧ Hid (0 < kk ∧ kk ≤ c → u = (v ^ kk * BB ^ (n' + 1)) % m) ∧ Hid (ExpS w wx B p lb pt lt pm pn ln pr lr (n' + 1) m m0 v (16 * E)) ∧ Hid (wx.heap[nb]? = some (.cells #[.int .i64 4, .int .i64 0] 3 (0, 0))))
              case atStart => exact ⟨0, u0, rfl, rfl, by omega, HU0, Lib.hid (by omega), hs5, hN4⟩
              case round =>
                clear HU0 hs5 hN4
                obtain ⟨c, u, hgc, rfl, hc15, hU, hPick, hS, hN⟩ := hrel
                by_cases hclt : c < 15
                · have f0 : (0 : Int) ≤ (c : Int) := by omega
                  have a1 := hS.out.tab.cell c hclt
                  have hU1 := Lib.hid hU.out.drew
                  have hS1 := Lib.hid hS.out.drew
                  go_wp2_with fail
                  refine wp_region_txt [0,0,0,0,0,2,0,0,0,2] (fun w' => w'.cell? ⟨B + 30, c, none⟩ = some (.pointer (some ⟨B + 2 * c + 1, 0, none⟩))) (by kernel_rfl) (by kernel_rfl) a1 ?_
                  simp only [withMarks]
                  repeat (first
                    | ((with_reducible refine txt_v (v := ?_) ?_ ?_); (any_goals ((with_reducible refine Yl.mk ?_ ?_); rfl; intro w hSw; (go_simp <;> (try go_bits) <;> (repeat (first | rw [if_pos (by omega)] | rw [if_neg (by omega)])) <;> with_reducible rfl))); try simp only [Act.put, List.setIfInBounds_toArray, List.set_cons_zero, List.set_cons_succ])
                    | ((with_reducible refine txt_u ?_ ?_); rfl; try simp only [Act.put, List.setIfInBounds_toArray, List.set_cons_zero, List.set_cons_succ])
                    | ((with_reducible refine txt_l (v := ?_) ?_ ?_); (any_goals ((with_reducible refine Reads.mk ?_ ?_); rfl; (go_simp <;> (try go_bits) <;> (repeat (first | rw [if_pos (by omega)] | rw [if_neg (by omega)])) <;> with_reducible rfl))); try simp only [Act.put, List.setIfInBounds_toArray, List.set_cons_zero, List.set_cons_succ])
                    | ((with_reducible refine txt_e ?_ ?_); rfl; intro K hK; go_simp; (first | (refine hK _ _ (by first | exact a1 | exact hs2.tab.cell c hclt) ?_) | ((first | (go_at_call 96; refine (ctEq_s kk c (by unfold BB; omega) (by omega) _).mono ?_; rintro e3 w3 ⟨r, rfl, hr, rfl⟩) | (go_at_call 95; refine (exp_pick HE.out HB.out hS1.out hU1.out hclt hr).mono ?_; rintro e2 w2 ⟨rfl, u', hu', g1, g2, hs2, hq2⟩)); dsimp only; refine hK _ _ (by first | exact a1 | exact hs2.tab.cell c hclt) ?_)); clear hK K; try simp only [Act.put, List.setIfInBounds_toArray, List.set_cons_zero, List.set_cons_succ]))
                  refine txt_nil ?_
                  have HU' := Lib.hid hu'; have HS2 := Lib.hid hs2
                  have HN2 := Lib.hid (blk_keeps (w := wr.drew) hN.out hq2 (by have := hNn.out; simp; omega))
                  have HP2 : Hid (0 < kk ∧ kk ≤ c + 1 → u' = (v ^ kk * BB ^ (n' + 1)) % m) := Lib.hid (by
                    rintro ⟨h1, h2⟩
                    by_cases h3 : kk = c + 1
                    · rw [g1 h3, h3]
                    · rw [g2 h3]; exact hPick.out ⟨h1, by omega⟩)
                  clear hu' g1 g2 hs2 hq2 hr hU hPick hS hN a1 hU1 hS1
                  go_wp2_with fail
                  go_roundg (15 - (c + 1))
                  case measure => omega
                  case rel => exact ⟨c + 1, u', rfl, by go_num, by omega, HU', HP2, HS2, HN2⟩
                · obtain rfl : c = 15 := by omega
                  go_wp2_with fail
                  refine (exp_mulT HE.out HB.out hS.out hU.out).mono ?_
                  rintro e w25 ⟨rfl, u', hu', hpk, hs6, hq6⟩
                  have HU' := Lib.hid hu'; have HS6 := Lib.hid hs6
                  have HN6 := Lib.hid (blk_keeps hN.out hq6 (by have := hNn.out; simp; omega))
                  have HP6 : Hid (¬ kk = 0 → u' = (v ^ (16 * E + kk) * BB ^ (n' + 1)) % m) := Lib.hid fun h => hpk kk (hPick.out ⟨by omega, by omega⟩)
                  clear hu' hs6 hpk hq6 hU hPick hS hN
                  go_wp2_with fail
                  refine (ctEq_z kk (by unfold BB; omega) _).mono ?_
                  rintro e w26 ⟨r1, rfl, hr1, rfl⟩
                  go_wp2_with fail
                  refine (not_any r1 hr1 _).mono ?_
                  rintro e w26 ⟨r2, rfl, hr2, rfl⟩
                  go_wp2_with fail
                  refine (exp_take (E' := 16 * E + kk) HE.out HS6.out HU'.out hr2 HP6.out (by intro h; omega)).mono ?_
                  rintro e w27 ⟨rfl, hs7, hq7⟩
                  have HS7 := Lib.hid hs7
                  have HN7 := Lib.hid (blk_keeps HN6.out hq7 (by have := hNn.out; simp; omega))
                  clear hs7 hq7 hr1 hr2 HN6 HS6 HU' HP6
                  go_wp2_with fail
                  go_roundg (2 - (0 + 1))
                  case measure => omega
                  case rel =>
                    refine ⟨0 + 1, rfl, by go_num, by omega, Lib.hid ?_, HN7⟩
                    have := HS7.out
                    rw [HEE.out, HKK.out] at this
                    exact this
            · have c4 : wr.cell? ⟨nb, 1, none⟩ = some (.int .i64 0) := by simp [World.cell?, hN.out]
              go_wp2_with fail
              refine (exp_sq1 HE.out hS.out).mono ?_
              rintro e w21 ⟨rfl, hs1, hq1⟩
              clear c4
              go_wp2_with fail
              refine (exp_sq1 HE.out hs1).mono ?_
              rintro e w22 ⟨rfl, hs2, hq2⟩
              clear hs1
              go_wp2_with fail
              refine (exp_sq1 HE.out hs2).mono ?_
              rintro e w23 ⟨rfl, hs3, hq3⟩
              clear hs2
              go_wp2_with fail
              refine (exp_sq1 HE.out hs3).mono ?_
              rintro e w24 ⟨rfl, hs4, hq4⟩
              clear hs3
              obtain ⟨E, hE⟩ : ∃ E, E = expE (bval (L.take i)) x 1 := ⟨_, rfl⟩
              obtain ⟨kk, hkk⟩ : ∃ kk : Nat, kk = x % 16 := ⟨_, rfl⟩
              have hk16 : kk < 16 := by omega
              have hs5 : Hid (ExpS w w24 B p lb pt lt pm pn ln pr lr (n' + 1) m m0 v (16 * E)) := Lib.hid (by
                rw [show 16 * E = 2 * (2 * (2 * (2 * E))) by omega, hE]; exact hs4)
              have hN4 := Lib.hid (blk_keeps hN.out (((hq1.trans1 hq2).trans1 hq3).trans1 hq4) (by have := hNn.out; simp; omega))
              obtain ⟨u0, hu0⟩ := hs4.t
              have HU0 := Lib.hid hu0
              clear hs4 hq1 hq2 hq3 hq4 hN hS hu0
              have HEE := Lib.hid hE
              clear hE
              go_wp2_with fail
              have ekk : (x : Int) % 16 = (kk : Int) := by omega
              simp only [ekk]
              have HKK := Lib.hid hkk
              clear hkk ekk
              go_loopg [112] 15 (fun gn cv wx => ∃ c u : Nat, gn = 15 - c ∧ cv = .int .i64 (c : Int) ∧ c ≤ 15 ∧ Hid (NatV wx pt lt (n' + 1) 32 u) ∧ Hid (0 < kk ∧ kk ≤ c → u = (v ^ kk * BB ^ (n' + 1)) % m) ∧ Hid (ExpS w wx B p lb pt lt pm pn ln pr lr (n' + 1) m m0 v (16 * E)) ∧ Hid (wx.heap[nb]? = some (.cells #[.int .i64 4, .int .i64 0] 3 (0, 0))))
              case atStart => exact ⟨0, u0, rfl, rfl, by omega, HU0, Lib.hid (by omega), hs5, hN4⟩
              case round =>
                clear HU0 hs5 hN4
                obtain ⟨c, u, hgc, rfl, hc15, hU, hPick, hS, hN⟩ := hrel
                by_cases hclt : c < 15
                · have f0 : (0 : Int) ≤ (c : Int) := by omega
                  have a1 := hS.out.tab.cell c hclt
                  have hU1 := Lib.hid hU.out.drew
                  have hS1 := Lib.hid hS.out.drew
                  go_wp2_with fail
                  refine wp_region_txt [0,0,0,0,0,2,0,0,0,2] (fun w' => w'.cell? ⟨B + 30, c, none⟩ = some (.pointer (some ⟨B + 2 * c + 1, 0, none⟩))) (by kernel_rfl) (by kernel_rfl) a1 ?_
                  simp only [withMarks]
                  repeat (first
                    | ((with_reducible refine txt_v (v := ?_) ?_ ?_); (any_goals ((with_reducible refine Yl.mk ?_ ?_); rfl; intro w hSw; (go_simp <;> (try go_bits) <;> (repeat (first | rw [if_pos (by omega)] | rw [if_neg (by omega)])) <;> with_reducible rfl))); try simp only [Act.put, List.setIfInBounds_toArray, List.set_cons_zero, List.set_cons_succ])
                    | ((with_reducible refine txt_u ?_ ?_); rfl; try simp only [Act.put, List.setIfInBounds_toArray, List.set_cons_zero, List.set_cons_succ])
                    | ((with_reducible refine txt_l (v := ?_) ?_ ?_); (any_goals ((with_reducible refine Reads.mk ?_ ?_); rfl; (go_simp <;> (try go_bits) <;> (repeat (first | rw [if_pos (by omega)] | rw [if_neg (by omega)])) <;> with_reducible rfl))); try simp only [Act.put, List.setIfInBounds_toArray, List.set_cons_zero, List.set_cons_succ])
                    | ((with_reducible refine txt_e ?_ ?_); rfl; intro K hK; go_simp; (first | (refine hK _ _ (by first | exact a1 | exact hs2.tab.cell c hclt) ?_) | ((first | (go_at_call 96; refine (ctEq_s kk c (by unfold BB; omega) (by omega) _).mono ?_; rintro e3 w3 ⟨r, rfl, hr, rfl⟩) | (go_at_call 95; refine (exp_pick HE.out HB.out hS1.out hU1.out hclt hr).mono ?_; rintro e2 w2 ⟨rfl, u', hu', g1, g2, hs2, hq2⟩)); dsimp only; refine hK _ _ (by first | exact a1 | exact hs2.tab.cell c hclt) ?_)); clear hK K; try simp only [Act.put, List.setIfInBounds_toArray, List.set_cons_zero, List.set_cons_succ]))
                  refine txt_nil ?_
                  have HU' := Lib.hid hu'; have HS2 := Lib.hid hs2
                  have HN2 := Lib.hid (blk_keeps (w := wr.drew) hN.out hq2 (by have := hNn.out; simp; omega))
                  have HP2 : Hid (0 < kk ∧ kk ≤ c + 1 → u' = (v ^ kk * BB ^ (n' + 1)) % m) := Lib.hid (by
                    rintro ⟨h1, h2⟩
                    by_cases h3 : kk = c + 1
                    · rw [g1 h3, h3]
                    · rw [g2 h3]; exact hPick.out ⟨h1, by omega⟩)
                  clear hu' g1 g2 hs2 hq2 hr hU hPick hS hN a1 hU1 hS1
                  go_wp2_with fail
                  go_roundg (15 - (c + 1))
                  case measure => omega
                  case rel => exact ⟨c + 1, u', rfl, by go_num, by omega, HU', HP2, HS2, HN2⟩
                · obtain rfl : c = 15 := by omega
                  go_wp2_with fail
                  refine (exp_mulT HE.out HB.out hS.out hU.out).mono ?_
                  rintro e w25 ⟨rfl, u', hu', hpk, hs6, hq6⟩
                  have HU' := Lib.hid hu'; have HS6 := Lib.hid hs6
                  have HN6 := Lib.hid (blk_keeps hN.out hq6 (by have := hNn.out; simp; omega))
                  have HP6 : Hid (¬ kk = 0 → u' = (v ^ (16 * E + kk) * BB ^ (n' + 1)) % m) := Lib.hid fun h => hpk kk (hPick.out ⟨by omega, by omega⟩)
                  clear hu' hs6 hpk hq6 hU hPick hS hN
                  go_wp2_with fail
                  refine (ctEq_z kk (by unfold BB; omega) _).mono ?_
                  rintro e w26 ⟨r1, rfl, hr1, rfl⟩
                  go_wp2_with fail
                  refine (not_any r1 hr1 _).mono ?_
                  rintro e w26 ⟨r2, rfl, hr2, rfl⟩
                  go_wp2_with fail
                  refine (exp_take (E' := 16 * E + kk) HE.out HS6.out HU'.out hr2 HP6.out (by intro h; omega)).mono ?_
                  rintro e w27 ⟨rfl, hs7, hq7⟩
                  have HS7 := Lib.hid hs7
                  have HN7 := Lib.hid (blk_keeps HN6.out hq7 (by have := hNn.out; simp; omega))
                  clear hs7 hq7 hr1 hr2 HN6 HS6 HU' HP6
                  go_wp2_with fail
                  go_roundg (2 - (1 + 1))
                  case measure => omega
                  case rel =>
                    refine ⟨1 + 1, rfl, by go_num, by omega, Lib.hid ?_, HN7⟩
                    have := HS7.out
                    rw [HEE.out, HKK.out] at this
                    exact this
            · have hfin : Hid (ExpS w wr B p lb pt lt pm pn ln pr lr (n' + 1) m m0 v (bval (L.take (i + 1)))) := Lib.hid (by
                have e1 : bval (L.take (i + 1)) = expE (bval (L.take i)) x 2 := by
                  rw [bval_take_succ L i hlL, ← HX.out]
                  show _ = 16 * (16 * bval (L.take i) + x / 16) + x % 16
                  omega
                rw [e1]
                exact hS.out)
              clear hS hN
              go_wp2_with fail
              go_roundg (mb - (i + 1))
              case measure => omega
              case rel => exact ⟨i + 1, rfl, by go_num, by omega, hfin⟩
        · obtain rfl : i = mb := by omega
          have hlen := HLn.out
          have e1 : L.take i = L := List.take_of_length_le (by omega)
          clear hlen
          go_wp2_with fail
          have ho := hS.out.o
          rw [e1] at ho
          refine (nat_montRed p lb 32 ((v ^ bval L * BB ^ (n' + 1)) % m) pm pn ln pr lr (n' + 1) m m0 _ ho hS.out.md hl (by omega) (Nat.mod_lt _ hm0)).mono ?_
          rintro e6 w6 ⟨rfl, v', hv1, hv2, ho6, hk6⟩
          have hv' := mont_unique HM.out.odd hv1 hv2
          subst hv'
          have HO6 := Lib.hid ho6; have HK6 := Lib.hid (hS.out.k.trans1 hk6)
          clear ho ho6 hk6 hv1 hv2 e1
          go_wp2
          go_ret
          exact ⟨rfl, HO6.out, HK6.out⟩

end Go.Proofs.YtnfjmngchapdnaaGreatDoor
