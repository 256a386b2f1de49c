import Derived.Test.YtnfjmngchapdnaaDoorMMontRep
import Derived.Test.YtnfjmngchapdnaaDoorMLOf
/- bigmod: Nat.Bytes. -/
namespace Go.Proofs.YtnfjmngchapdnaaDoor
open Go.RowKit

theorem u8s_set (L : List Nat) (k z : Nat) : (u8s L).set k (.int .u8 (z : Int)) = u8s (L.set k z) := by simp [u8s, List.map_set]
theorem BB_256 (k : Nat) : BB ^ k = 256 ^ (8 * k) := by rw [Nat.pow_mul]; rfl
theorem limb_at (X : List Nat) (k : Nat) (hk : k < X.length) (hl : Lt X) : val X / 256 ^ (8 * k) % 256 ^ 8 = X[k] := by
  rw [← BB_256]
  have h1 := List.take_append_drop k X
  rw [List.drop_eq_getElem_cons hk] at h1
  have h2 : val X = val (X.take k) + BB ^ k * (X[k] + BB * val (X.drop (k + 1))) := by
    conv => lhs; rw [← h1]
    rw [val_append, List.length_take, Nat.min_eq_left (by omega)]
    rfl
  have h3 : val (X.take k) < BB ^ k := val_take_lt hl k (by omega)
  rw [h2, Nat.add_mul_div_left _ _ (pow_BB_pos k), Nat.div_eq_of_lt h3, Nat.zero_add]
  have h4 : X[k] < BB := hl _ (List.getElem_mem hk)
  show (X[k] + BB * _) % BB = _
  rw [Nat.add_mul_mod_self_left, Nat.mod_eq_of_lt h4]
theorem byte_low (v T j : Nat) (hj : j < 8) : (v / 256 ^ T % 256 ^ (8 - j)) % 256 = v / 256 ^ T % 256 := by
  rw [show 8 - j = (7 - j) + 1 by omega, Nat.pow_succ, Nat.mul_comm, Nat.mod_mul_right_mod]
theorem byte_high (v T j : Nat) (hj : j < 8) : (v / 256 ^ T % 256 ^ (8 - j)) / 256 = v / 256 ^ (T + 1) % 256 ^ (8 - (j + 1)) := by
  rw [show 8 - j = (8 - (j + 1)) + 1 by omega, Nat.pow_succ, Nat.mul_comm (256 ^ (8 - (j + 1))) 256, Nat.mod_mul_right_div_self, Nat.div_div_eq_div_mul, ← Nat.pow_succ]
theorem byte_step {O : List Nat} {v T i z S : Nat} (hS : O.length = S) (hi : i + 1 + T = S) (h : bval (O.drop (i + 1)) = v % 256 ^ T) (hz : z = v / 256 ^ T % 256) : bval ((O.set i z).drop i) = v % 256 ^ (T + 1) := by
  have h1 := bval_byte (O.set i z) (i + 1) T (by omega) (by simp; omega)
  simp only [Nat.add_sub_cancel] at h1
  rw [h1, List.drop_set_of_lt (by omega), h, Nat.mod_pow_succ, hz]
  simp

/-- Bytes of one's own that were returned: S of them, their number v. -/
def RetBytes (e : Ending) (w' : World) (B S v : Nat) : Prop :=
  ∃ O : List Nat, e = .returned (.slice (some ⟨B, 0, none⟩) S S) ∧ O.length = S ∧ LtB O ∧ bval O = v ∧ w'.ownsRow B 5 1 (.slice (some ⟨B, 0, none⟩) S S) S (u8s O)
/-- How far the bytes are written: T steps are done, iz is the place. -/
def BytesAt (S v T : Nat) (iz : Int) (O : List Nat) : Prop := (T ≤ S ∧ iz = (S : Int) - (T : Int) ∧ bval (O.drop (S - T)) = v % 256 ^ T) ∨ (S < T ∧ iz < 0 ∧ bval O = v)
theorem high_zero {v S T k : Nat} (h : v < 256 ^ S) (hT : S ≤ T) : v / 256 ^ T % k = 0 := by
  rw [Nat.div_eq_of_lt (Nat.lt_of_lt_of_le h (Nat.pow_le_pow_right (by omega) hT)), Nat.zero_mod]
theorem LtB.set {L : List Nat} (h : LtB L) {z : Nat} (hz : z < 256) (k : Nat) : LtB (L.set k z) := fun a ha => by
  rcases List.mem_or_eq_of_mem_set ha with h1 | h1
  · exact h a h1
  · rw [h1]; exact hz

set_option maxRecDepth 100000 in
set_option maxHeartbeats 2000000 in
theorem nat_Bytes (p lb c v pm pn ln n m m0 : Nat) (odd : Bool) (rv : Value) (w : World) (hx : NatV w p lb n c v) (hm : ModB w pm pn ln n m odd m0 rv) (hn : n ≤ 31) (hv : v < m) :
    Calls Tryd.prog 50 #[.pointer (some ⟨p, 0, none⟩), .pointer (some ⟨pm, 0, none⟩)] w fun e w' =>
      RetBytes e w' w.heap.size ((blen m + 7) / 8) v ∧ Keeps [] w w' := by
  obtain ⟨S, hS⟩ : ∃ S, S = (blen m + 7) / 8 := ⟨_, rfl⟩
  have hbl := blen_le_n hm.nat.lt
  have hS8 : S ≤ 8 * n := by omega
  have hvS : v < 256 ^ S := by
    have h1 := lt_blen m
    have h2 : 2 ^ blen m ≤ 2 ^ (8 * S) := Nat.pow_le_pow_right (by omega) (by omega)
    have h3 : (256 : Nat) ^ S = 2 ^ (8 * S) := by rw [Nat.pow_mul]
    omega
  obtain ⟨i0, hi, hz0, hz1, hz2⟩ := info_parts info_byte
  obtain ⟨wm, hmk, hown, hgr⟩ := run_make_full (P := Tryd.prog) w w.heap.size 22 5 i0 (.int .u8 0) 1 und_bytes hi hz0 hz1 .i64 .i64 S (by rw [hz2]; omega) (by unfold maxLen; omega) (Nat.le_refl _)
  have hown' : wm.ownsRow w.heap.size 5 1 (.slice (some ⟨w.heap.size, 0, none⟩) S S) S (u8s (List.replicate S 0)) := by
    have e : (madeCells (Value.int .u8 0).cells (S * 1)).toList = u8s (List.replicate S 0) := by
      rw [Nat.mul_one]
      show (madeCells #[Value.int .u8 0] S).toList = _
      rw [toList_madeCells_one]; simp [u8s]
    rw [← e]; exact hown
  have hk0 : Keeps [] w wm := (Keeps.refl [] w).grown hgr (by simp)
  have HO0 := Lib.hid hown'; have HK0 := Lib.hid hk0
  clear hown hgr hown' hi hz0 hz1 hz2
  have hp0 := (hx.kept hk0).hdr.cell
  have hnc := hx.le
  obtain ⟨_, X, J, hX, hXn, hXJ, hXl, hXv⟩ := hx
  have HX := Lib.hid hX; have HXN := Lib.hid hXn; have HXV := Lib.hid hXv; have HVS := Lib.hid hvS; have HSS := Lib.hid hS
  clear hk0 hX hXn hXJ hXv hvS
  go_enter Tryd.func50, Tryd.ntmps50
  go_wp2_with fail
  refine (mod_Size pm pn ln n m m0 odd rv _ hm).mono ?_
  rintro e w1 ⟨rfl, rfl⟩
  rw [← hS]
  clear hS hbl
  go_wp2
  clear hmk hp0
  go_loopw [5, 19] (fun iv kv wr => ∃ (k : Nat) (iz : Int) (O : List Nat), iv = .int .i64 iz ∧ kv = .int .i64 (k : Int) ∧ k ≤ n ∧ Hid (O.length = S) ∧ LtB O ∧ Hid (wr.ownsRow w.heap.size 5 1 (.slice (some ⟨w.heap.size, 0, none⟩) S S) S (u8s O)) ∧ Hid (BytesAt S v (8 * k) iz O) ∧ -(k : Int) - 1 ≤ iz ∧ iz ≤ 300 ∧ Hid (Keeps [] w wr)) (fun _ kv _ => n - (intOf kv).toNat)
  case atStart =>
    exact ⟨0, S, List.replicate S 0, by go_num, by go_num, by omega, Lib.hid (by simp), fun x hx => by have := (List.mem_replicate.1 hx).2; subst this; decide, HO0, Lib.hid (.inl ⟨by omega, by simp, by rw [List.drop_of_length_le (by simp), Nat.pow_zero, Nat.mod_one]; rfl⟩), by omega, by omega, HK0⟩
  case round =>
    obtain ⟨k, iz, O, rfl, rfl, hkn, hOl, hOlt, hO, hAt, hz1, hz2, hK⟩ := hrel
    by_cases hlt : k < n
    · have i1 : (k : Int) < (n : Int) := by omega
      have hkX : k < X.length := by have := HXN.out; omega
      have hcx := (HX.out.keeps hK.out (by simp)).cell k (by simp; omega)
      rw [List.getElem_append_left hkX] at hcx
      obtain ⟨l0, hl0⟩ : ∃ l0, l0 = X[k] := ⟨_, rfl⟩
      have hl0B := hXl.get k hkX
      have hlim := limb_at X k hkX hXl
      rw [← hl0] at hcx hl0B hlim
      rw [HXV.out] at hlim
      have HLIM := Lib.hid hlim
      clear hl0 hlim
      go_wp2
      go_loopw [5, 8, 9] (fun iv lv jv wr => ∃ (iz : Int) (l j : Nat) (O' : List Nat), iv = .int .i64 iz ∧ lv = .int .u64 (l : Int) ∧ jv = .int .i64 (j : Int) ∧ j ≤ 8 ∧ l < BB ∧ Hid (l = v / 256 ^ (8 * k + j) % 256 ^ (8 - j)) ∧ Hid (O'.length = S) ∧ LtB O' ∧ Hid (wr.ownsRow w.heap.size 5 1 (.slice (some ⟨w.heap.size, 0, none⟩) S S) S (u8s O')) ∧ Hid (BytesAt S v (8 * k + j) iz O') ∧ (S < 8 * k + j → j = 0) ∧ -(k : Int) - 1 ≤ iz ∧ iz ≤ 300 ∧ Hid (Keeps [] w wr)) (fun _ _ jv _ => 8 - (intOf jv).toNat)
      case atStart => exact ⟨iz, l0, 0, O, rfl, rfl, by go_num, by omega, hl0B, Lib.hid HLIM.out.symm, hOl, hOlt, hO, hAt, fun _ => rfl, hz1, hz2, hK⟩
      case round =>
        clear hz1 hz2 hcx hK hO hAt hOl hOlt hl0B
        obtain ⟨iz, l, j, O', rfl, rfl, rfl, hj8, hlB, hl, hOl', hOlt', hO', hAt', hj0, hz1, hz2, hK'⟩ := hrel
        by_cases hj : j < 8
        · have i2 : (j : Int) < 8 := by omega
          rcases hAt'.out with ⟨t1, t2, t3⟩ | ⟨t1, t2, t3⟩
          · by_cases hTS : 8 * k + j = S
            · have hiz : iz = 0 := by omega
              subst hiz
              have hlz : l = 0 := by rw [hl.out]; exact high_zero HVS.out (by omega)
              subst hlz
              have hfull : bval O' = v := by
                rw [hTS, Nat.sub_self, List.drop_zero, Nat.mod_eq_of_lt HVS.out] at t3
                exact t3
              have HT3 := Lib.hid hfull; have HTS := Lib.hid hTS
              clear t3 t2 hfull hTS hl
              go_wp2
              refine ⟨⟨k + 1, -1, O', rfl, by go_num, by omega, hOl', hOlt', hO', Lib.hid (.inr ⟨by have := HTS.out; omega, by omega, HT3.out⟩), by omega, by omega, hK'⟩, by simp [intOf]; omega⟩
            · obtain ⟨i, hi⟩ : ∃ i : Nat, iz = (i : Int) + 1 := ⟨(iz - 1).toNat, by omega⟩
              subst hi
              have hiT : i + 1 + (8 * k + j) = S := by omega
              have hdr : S - (8 * k + j) = i + 1 := by omega
              rw [hdr] at t3
              have HIT := Lib.hid hiT; have HT3 := Lib.hid t3
              clear t3 t2 hdr hTS
              have hiS : i < S := by omega
              clear hiT
              have i3 : ¬ (i : Int) + 1 - 1 < 0 := by omega
              have i4 : (i : Int) < (S : Int) := by omega
              have hiO : i < O'.length := by have := hOl'.out; omega
              have co := hO'.out.cellAt i (by omega)
              have fo := hO'.out.frozenAt i
              rw [show (u8s O')[i]? = some (.int .u8 (O'[i] : Int)) by simp [u8s, hiO]] at co
              obtain ⟨z, hz⟩ : ∃ z, z = l % 256 := ⟨_, rfl⟩
              have hzI : (l : Int) % 256 = (z : Int) := by omega
              have hz256 : z < 256 := by omega
              have hzv : z = v / 256 ^ (8 * k + j) % 256 := by rw [hz, hl.out]; exact byte_low v (8 * k + j) j hj
              have hl' : l / 256 = v / 256 ^ (8 * k + (j + 1)) % 256 ^ (8 - (j + 1)) := by
                have h := byte_high v (8 * k + j) j hj
                rw [← hl.out] at h; exact h
              have hst := (hO'.out.stored i (.int .u8 (z : Int))).1
              rw [u8s_set] at hst
              have hks := hK'.out.setCell (p := ⟨w.heap.size, i, none⟩) (fun h => absurd h (Nat.lt_irrefl _)) (.int .u8 (z : Int))
              have hval := byte_step hOl'.out HIT.out HT3.out hzv
              have HST := Lib.hid hst; have HKS := Lib.hid hks; have HVL := Lib.hid hval; have HL2 := Lib.hid hl'; have HZI := Lib.hid hzI
              clear hst hks hval hl' hzv hz hzI
              have hlB2 : l / 256 < BB := Nat.lt_of_le_of_lt (Nat.div_le_self _ _) hlB
              go_wp2
              rw [HZI.out]
              refine ⟨⟨i, l / 256, j + 1, O'.set i z, by go_num, by go_num, by go_num, by omega, hlB2, HL2, Lib.hid (by rw [List.length_set]; exact hOl'.out), LtB.set hOlt' hz256 i, HST, Lib.hid (.inl ⟨by have := HIT.out; omega, by have := HIT.out; omega, ?_⟩), fun h => ?_, by omega, by omega, HKS⟩, by simp [intOf]; omega⟩
              · have e : S - (8 * k + (j + 1)) = i := by have := HIT.out; omega
                rw [e, ← Nat.add_assoc]; exact HVL.out
              · have := HIT.out; omega
          · have i3 : iz - 1 < 0 := by omega
            have hlz : l = 0 := by rw [hl.out]; exact high_zero HVS.out (by omega)
            subst hlz
            have HT3 := Lib.hid t3
            clear t3 hl
            go_wp2
            refine ⟨⟨k + 1, iz - 1, O', rfl, by go_num, by omega, hOl', hOlt', hO', Lib.hid (.inr ⟨by omega, by omega, HT3.out⟩), by omega, by omega, hK'⟩, by simp [intOf]; omega⟩
        · have i2 : ¬ (j : Int) < 8 := by omega
          have hj8' : j = 8 := by omega
          go_wp2
          refine ⟨⟨k + 1, iz, O', rfl, by go_num, by omega, hOl', hOlt', hO', Lib.hid ?_, by omega, by omega, hK'⟩, by simp [intOf]; omega⟩
          have h := hAt'.out
          rw [hj8'] at h
          exact h
    · have hkn' : k = n := by omega
      have i1 : ¬ (k : Int) < (n : Int) := by omega
      have hfin : bval O = v := by
        rcases hAt.out with ⟨t1, t2, t3⟩ | ⟨t1, t2, t3⟩
        · have e : S = 8 * k := by omega
          rw [← e, Nat.sub_self, List.drop_zero, Nat.mod_eq_of_lt HVS.out] at t3
          exact t3
        · exact t3
      have HF := Lib.hid hfin; have HKN := Lib.hid hkn'
      clear hfin hkn'
      go_wp2
      go_ret
      rw [← HSS.out]
      exact ⟨⟨O, rfl, hOl.out, hOlt, HF.out, hO.out⟩, hK.out⟩

end Go.Proofs.YtnfjmngchapdnaaDoor
