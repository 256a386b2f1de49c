import Derived.Test.YtnfjmngchapdnaaGreatDoorMMontRep
import Derived.Test.YtnfjmngchapdnaaGreatDoorMLOf
import Derived.Test.YtnfjmngchapdnaaGreatDoorMRsaPub
/- bigmod: Nat.Bytes. -/
namespace Go.Proofs.YtnfjmngchapdnaaGreatDoor
open Go.RowKit

theorem u8s_set (L : List Nat) (k z : Nat) : (u8s L).set k (.int .u8 (z : Int)) = u8s (L.set k z) := by simp [u8s, List.map_set]
theorem BB_256 (k : Nat) : BB ^ k = 256 ^ (8 * k) := by rw [Nat.pow_mul]; rfl
theorem limb_at (X : List Nat) (k : Nat) (hk : k < X.length) (hl : Lt X) : val X / 256 ^ (8 * k) % 256 ^ 8 = X[k] := by
  rw [← BB_256]
  have h1 := List.take_append_drop k X
  rw [List.drop_eq_getElem_cons hk] at h1
  have h2 : val X = val (X.take k) + BB ^ k * (X[k] + BB * val (X.drop (k + 1))) := by
    conv => lhs; rw [← h1]
    rw [val_append, List.length_take, Nat.min_eq_left (by omega)]
    rfl
  have h3 : val (X.take k) < BB ^ k := val_take_lt hl k (by omega)
  rw [h2, Nat.add_mul_div_left _ _ (pow_BB_pos k), Nat.div_eq_of_lt h3, Nat.zero_add]
  have h4 : X[k] < BB := hl _ (List.getElem_mem hk)
  show (X[k] + BB * _) % BB = _
  rw [Nat.add_mul_mod_self_left, Nat.mod_eq_of_lt h4]
theorem byte_low (v T j : Nat) (hj : j < 8) : (v / 256 ^ T % 256 ^ (8 - j)) % 256 = v / 256 ^ T % 256 := by
  rw [show 8 - j = (7 - j) + 1 by omega, Nat.pow_succ, Nat.mul_comm, Nat.mod_mul_right_mod]
theorem byte_high (v T j : Nat) (hj : j < 8) : (v / 256 ^ T % 256 ^ (8 - j)) / 256 = v / 256 ^ (T + 1) % 256 ^ (8 - (j + 1)) := by
  rw [show 8 - j = (8 - (j + 1)) + 1 by omega, Nat.pow_succ, Nat.mul_comm (256 ^ (8 - (j + 1))) 256, Nat.mod_mul_right_div_self, Nat.div_div_eq_div_mul, ← Nat.pow_succ]
theorem byte_step {O : List Nat} {v T i z S : Nat} (hS : O.length = S) (hi : i + 1 + T = S) (h : bval (O.drop (i + 1)) = v % 256 ^ T) (hz : z = v / 256 ^ T % 256) : bval ((O.set i z).drop i) = v % 256 ^ (T + 1) := by
  have h1 := bval_byte (O.set i z) (i + 1) T (by omega) (by simp; omega)
  simp only [Nat.add_sub_cancel] at h1
  rw [h1, List.drop_set_of_lt (by omega), h, Nat.mod_pow_succ, hz]
  simp

/-- Bytes of one's own that were returned: S of them, their number v. -/
def RetBytes (e : Ending) (w' : World) (B S v : Nat) : Prop :=
  ∃ O : List Nat, e = .returned (.slice (some ⟨B, 0, none⟩) S S) ∧ O.length = S ∧ LtB O ∧ bval O = v ∧ w'.ownsRow B 5 1 (.slice (some ⟨B, 0, none⟩) S S) S (u8s O)
/-- How far the bytes are written: T steps are done, iz is the place. -/
def BytesAt (S v T : Nat) (iz : Int) (O : List Nat) : Prop := (T ≤ S ∧ iz = (S : Int) - (T : Int) ∧ bval (O.drop (S - T)) = v % 256 ^ T) ∨ (S < T ∧ iz < 0 ∧ bval O = v)
theorem high_zero {v S T k : Nat} (h : v < 256 ^ S) (hT : S ≤ T) : v / 256 ^ T % k = 0 := by
  rw [Nat.div_eq_of_lt (Nat.lt_of_lt_of_le h (Nat.pow_le_pow_right (by omega) hT)), Nat.zero_mod]
theorem LtB.set {L : List Nat} (h : LtB L) {z : Nat} (hz : z < 256) (k : Nat) : LtB (L.set k z) := fun a ha => by
  rcases List.mem_or_eq_of_mem_set ha with h1 | h1
  · exact h a h1
  · rw [h1]; exact hz

set_option maxRecDepth 100000 in
set_option maxHeartbeats 2000000 in
theorem nat_Bytes_le (p lb c v pm pn ln n m m0 : Nat) (odd : Bool) (rv : Value) (w : World) (hx : NatV w p lb n c v) (hm : ModB w pm pn ln n m odd m0 rv) (hn : n ≤ 31) (hv : v ≤ m) :
    Calls Tryz.prog 69 #[.pointer (some ⟨p, 0, none⟩), .pointer (some ⟨pm, 0, none⟩)] w fun e w' =>
      RetBytes e w' w.heap.size ((blen m + 7) / 8) v ∧ Keeps [] w w' := by
  obtain ⟨S, hS⟩ : ∃ S, S = (blen m + 7) / 8 := ⟨_, rfl⟩
  have hbl := blen_le_n hm.nat.lt
  have hS8 : S ≤ 8 * n := by omega
  have hvS : v < 256 ^ S := by
    have h1 := lt_blen m
    have h2 : 2 ^ blen m ≤ 2 ^ (8 * S) := Nat.pow_le_pow_right (by omega) (by omega)
    have h3 : (256 : Nat) ^ S = 2 ^ (8 * S) := by rw [Nat.pow_mul]
    omega
  obtain ⟨i0, hi, hz0, hz1, hz2⟩ := info_parts info_byte
  obtain ⟨wm, hmk, hown, hgr⟩ := run_make_full (P := Tryz.prog) w w.heap.size 22 5 i0 (.int .u8 0) 1 und_bytes hi hz0 hz1 .i64 .i64 S (by rw [hz2]; omega) (by unfold maxLen; omega) (Nat.le_refl _)
  have hown' : wm.ownsRow w.heap.size 5 1 (.slice (some ⟨w.heap.size, 0, none⟩) S S) S (u8s (List.replicate S 0)) := by
    have e : (madeCells (Value.int .u8 0).cells (S * 1)).toList = u8s (List.replicate S 0) := by
      rw [Nat.mul_one]
      show (madeCells #[Value.int .u8 0] S).toList = _
      rw [toList_madeCells_one]; simp [u8s]
    rw [← e]; exact hown
  have hk0 : Keeps [] w wm := (Keeps.refl [] w).grown hgr (by simp)
  have HO0 := Lib.hid hown'; have HK0 := Lib.hid hk0
  clear hown hgr hown' hi hz0 hz1 hz2
  have hp0 := (hx.kept hk0).hdr.cell
  have hnc := hx.le
  obtain ⟨_, X, J, hX, hXn, hXJ, hXl, hXv⟩ := hx
  have HX := Lib.hid hX; have HXN := Lib.hid hXn; have HXV := Lib.hid hXv; have HVS := Lib.hid hvS; have HSS := Lib.hid hS
  clear hk0 hX hXn hXJ hXv hvS
  go_enter Tryz.func69, Tryz.ntmps69
  go_wp2_with fail
  refine (mod_Size pm pn ln n m m0 odd rv _ hm).mono ?_
  rintro e w1 ⟨rfl, rfl⟩
  rw [← hS]
  clear hS hbl
  go_wp2
  clear hmk hp0
  go_loopw [5, 19] (fun iv kv wr => ∃ (k : Nat) (iz : Int) (O : List Nat), iv = .int .i64 iz ∧ kv = .int .i64 (k : Int) ∧ k ≤ n ∧ Hid (O.length = S) ∧ LtB O ∧ Hid (wr.ownsRow w.heap.size 5 1 (.slice (some ⟨w.heap.size, 0, none⟩) S S) S (u8s O)) ∧ Hid (BytesAt S v (8 * k) iz O) ∧ -(k : Int) - 1 ≤ iz ∧ iz ≤ 300 ∧ Hid (Keeps [] w wr)) (fun _ kv _ => n - (intOf kv).toNat)
  case atStart =>
    exact ⟨0, S, List.replicate S 0, by go_num, by go_num, by omega, Lib.hid (by simp), fun x hx => by have := (List.mem_replicate.1 hx).2; subst this; decide, HO0, Lib.hid (.inl ⟨by omega, by simp, by rw [List.drop_of_length_le (by simp), Nat.pow_zero, Nat.mod_one]; rfl⟩), by omega, by omega, HK0⟩
  case round =>
    obtain ⟨k, iz, O, rfl, rfl, hkn, hOl, hOlt, hO, hAt, hz1, hz2, hK⟩ := hrel
    by_cases hlt : k < n
    · have i1 : (k : Int) < (n : Int) := by omega
      have hkX : k < X.length := by have := HXN.out; omega
      have hcx := (HX.out.keeps hK.out (by simp)).cell k (by simp; omega)
      rw [List.getElem_append_left hkX] at hcx
      obtain ⟨l0, hl0⟩ : ∃ l0, l0 = X[k] := ⟨_, rfl⟩
      have hl0B := hXl.get k hkX
      have hlim := limb_at X k hkX hXl
      rw [← hl0] at hcx hl0B hlim
      rw [HXV.out] at hlim
      have HLIM := Lib.hid hlim
      clear hl0 hlim
      go_wp2
      go_loopw [5, 8, 9] (fun iv lv jv wr => ∃ (iz : Int) (l j : Nat) (O' : List Nat), iv = .int .i64 iz ∧ lv = .int .u64 (l : Int) ∧ jv = .int .i64 (j : Int) ∧ j ≤ 8 ∧ l < BB ∧ Hid (l = v / 256 ^ (8 * k + j) % 256 ^ (8 - j)) ∧ Hid (O'.length = S) ∧ LtB O' ∧ Hid (wr.ownsRow w.heap.size 5 1 (.slice (some ⟨w.heap.size, 0, none⟩) S S) S (u8s O')) ∧ Hid (BytesAt S v (8 * k + j) iz O') ∧ (S < 8 * k + j → j = 0) ∧ -(k : Int) - 1 ≤ iz ∧ iz ≤ 300 ∧ Hid (Keeps [] w wr)) (fun _ _ jv _ => 8 - (intOf jv).toNat)
      case atStart => exact ⟨iz, l0, 0, O, rfl, rfl, by go_num, by omega, hl0B, Lib.hid HLIM.out.symm, hOl, hOlt, hO, hAt, fun _ => rfl, hz1, hz2, hK⟩
      case round =>
        clear hz1 hz2 hcx hK hO hAt hOl hOlt hl0B
        obtain ⟨iz, l, j, O', rfl, rfl, rfl, hj8, hlB, hl, hOl', hOlt', hO', hAt', hj0, hz1, hz2, hK'⟩ := hrel
        by_cases hj : j < 8
        · have i2 : (j : Int) < 8 := by omega
          rcases hAt'.out with ⟨t1, t2, t3⟩ | ⟨t1, t2, t3⟩
          · by_cases hTS : 8 * k + j = S
            · have hiz : iz = 0 := by omega
              subst hiz
              have hlz : l = 0 := by rw [hl.out]; exact high_zero HVS.out (by omega)
              subst hlz
              have hfull : bval O' = v := by
                rw [hTS, Nat.sub_self, List.drop_zero, Nat.mod_eq_of_lt HVS.out] at t3
                exact t3
              have HT3 := Lib.hid hfull; have HTS := Lib.hid hTS
              clear t3 t2 hfull hTS hl
              go_wp2
              refine ⟨⟨k + 1, -1, O', rfl, by go_num, by omega, hOl', hOlt', hO', Lib.hid (.inr ⟨by have := HTS.out; omega, by omega, HT3.out⟩), by omega, by omega, hK'⟩, by simp [intOf]; omega⟩
            · obtain ⟨i, hi⟩ : ∃ i : Nat, iz = (i : Int) + 1 := ⟨(iz - 1).toNat, by omega⟩
              subst hi
              have hiT : i + 1 + (8 * k + j) = S := by omega
              have hdr : S - (8 * k + j) = i + 1 := by omega
              rw [hdr] at t3
              have HIT := Lib.hid hiT; have HT3 := Lib.hid t3
              clear t3 t2 hdr hTS
              have hiS : i < S := by omega
              clear hiT
              have i3 : ¬ (i : Int) + 1 - 1 < 0 := by omega
              have i4 : (i : Int) < (S : Int) := by omega
              have hiO : i < O'.length := by have := hOl'.out; omega
              have co := hO'.out.cellAt i (by omega)
              have fo := hO'.out.frozenAt i
              rw [show (u8s O')[i]? = some (.int .u8 (O'[i] : Int)) by simp [u8s, hiO]] at co
              obtain ⟨z, hz⟩ : ∃ z, z = l % 256 := ⟨_, rfl⟩
              have hzI : (l : Int) % 256 = (z : Int) := by omega
              have hz256 : z < 256 := by omega
              have hzv : z = v / 256 ^ (8 * k + j) % 256 := by rw [hz, hl.out]; exact byte_low v (8 * k + j) j hj
              have hl' : l / 256 = v / 256 ^ (8 * k + (j + 1)) % 256 ^ (8 - (j + 1)) := by
                have h := byte_high v (8 * k + j) j hj
                rw [← hl.out] at h; exact h
              have hst := (hO'.out.stored i (.int .u8 (z : Int))).1
              rw [u8s_set] at hst
              have hks := hK'.out.setCell (p := ⟨w.heap.size, i, none⟩) (fun h => absurd h (Nat.lt_irrefl _)) (.int .u8 (z : Int))
              have hval := byte_step hOl'.out HIT.out HT3.out hzv
              have HST := Lib.hid hst; have HKS := Lib.hid hks; have HVL := Lib.hid hval; have HL2 := Lib.hid hl'; have HZI := Lib.hid hzI
              clear hst hks hval hl' hzv hz hzI
              have hlB2 : l / 256 < BB := Nat.lt_of_le_of_lt (Nat.div_le_self _ _) hlB
              go_wp2
              rw [HZI.out]
              refine ⟨⟨i, l / 256, j + 1, O'.set i z, by go_num, by go_num, by go_num, by omega, hlB2, HL2, Lib.hid (by rw [List.length_set]; exact hOl'.out), LtB.set hOlt' hz256 i, HST, Lib.hid (.inl ⟨by have := HIT.out; omega, by have := HIT.out; omega, ?_⟩), fun h => ?_, by omega, by omega, HKS⟩, by simp [intOf]; omega⟩
              · have e : S - (8 * k + (j + 1)) = i := by have := HIT.out; omega
                rw [e, ← Nat.add_assoc]; exact HVL.out
              · have := HIT.out; omega
          · have i3 : iz - 1 < 0 := by omega
            have hlz : l = 0 := by rw [hl.out]; exact high_zero HVS.out (by omega)
            subst hlz
            have HT3 := Lib.hid t3
            clear t3 hl
            go_wp2
            refine ⟨⟨k + 1, iz - 1, O', rfl, by go_num, by omega, hOl', hOlt', hO', Lib.hid (.inr ⟨by omega, by omega, HT3.out⟩), by omega, by omega, hK'⟩, by simp [intOf]; omega⟩
        · have i2 : ¬ (j : Int) < 8 := by omega
          have hj8' : j = 8 := by omega
          go_wp2
          refine ⟨⟨k + 1, iz, O', rfl, by go_num, by omega, hOl', hOlt', hO', Lib.hid ?_, by omega, by omega, hK'⟩, by simp [intOf]; omega⟩
          have h := hAt'.out
          rw [hj8'] at h
          exact h
    · have hkn' : k = n := by omega
      have i1 : ¬ (k : Int) < (n : Int) := by omega
      have hfin : bval O = v := by
        rcases hAt.out with ⟨t1, t2, t3⟩ | ⟨t1, t2, t3⟩
        · have e : S = 8 * k := by omega
          rw [← e, Nat.sub_self, List.drop_zero, Nat.mod_eq_of_lt HVS.out] at t3
          exact t3
        · exact t3
      have HF := Lib.hid hfin; have HKN := Lib.hid hkn'
      clear hfin hkn'
      go_wp2
      go_ret
      rw [← HSS.out]
      exact ⟨⟨O, rfl, hOl.out, hOlt, HF.out, hO.out⟩, hK.out⟩
theorem nat_Bytes (p lb c v pm pn ln n m m0 : Nat) (odd : Bool) (rv : Value) (w : World) (hx : NatV w p lb n c v) (hm : ModB w pm pn ln n m odd m0 rv) (hn : n ≤ 31) (hv : v < m) :
    Calls Tryz.prog 69 #[.pointer (some ⟨p, 0, none⟩), .pointer (some ⟨pm, 0, none⟩)] w fun e w' =>
      RetBytes e w' w.heap.size ((blen m + 7) / 8) v ∧ Keeps [] w w' := nat_Bytes_le p lb c v pm pn ln n m m0 odd rv w hx hm hn (Nat.le_of_lt hv)

end Go.Proofs.YtnfjmngchapdnaaGreatDoor

/- rsa: a private key; a modulus under one name, and what is called with it. -/
namespace Go.Proofs.YtnfjmngchapdnaaGreatDoor
open Go.RowKit

/-- A modulus: where its parts lie, how many words it has, its value. -/
structure MA where
  (m p l r s n v : Nat)
def MA.is (a : MA) (w : World) : Prop := ModX w a.m a.p a.l a.r a.s a.n a.v
theorem MA.is.kept {a : MA} {w w' : World} (h : a.is w) (hk : Keeps [] w w') : a.is w' := ModX.kept h hk
theorem MA.is.drew {a : MA} {w : World} (h : a.is w) : a.is w.drew := h.kept (Keeps.refl _ _).drew
theorem MA.is.old {a : MA} {w : World} {x : Nat} (h : a.is w) (hx : w.heap.size ≤ x) : a.m ≠ x ∧ a.p ≠ x ∧ a.l ≠ x ∧ a.r ≠ x ∧ a.s ≠ x := ModX.old h hx
theorem MA.is.lt {a : MA} {w : World} (h : a.is w) : a.v < BB ^ a.n := ModX.lt h
theorem MA.is.npos {a : MA} {w : World} (h : a.is w) : 0 < a.n := ModX.npos h
theorem MA.is.n31 {a : MA} {w : World} (h : a.is w) : a.n ≤ 31 := ModX.n31 h
theorem MA.is.gt {a : MA} {w : World} (h : a.is w) : 1 < a.v := ModX.gt h
/-- All of it is new. -/
structure MA.new (a : MA) (B : Nat) : Prop where
  m : B ≤ a.m
  p : B ≤ a.p
  l : B ≤ a.l
  r : B ≤ a.r
  s : B ≤ a.s
/-- Kept where two new places are written. -/
theorem Keeps.two {w w1 w2 : World} {p l : Nat} (h : Keeps [] w w1) (hp : w.heap.size ≤ p) (hl : w.heap.size ≤ l) (h2 : Keeps [p, l] w1 w2) : Keeps [] w w2 :=
  h.trans h2 (by intro x hx hlt; simp at hx; omega)
theorem Keeps.one {w w1 w2 : World} {l : Nat} (h : Keeps [] w w1) (hl : w.heap.size ≤ l) (h2 : Keeps [l] w1 w2) : Keeps [] w w2 :=
  h.trans h2 (by intro x hx hlt; simp at hx; omega)

theorem ma_Nat (a : MA) (w : World) (h : a.is w) : Calls Tryz.prog 67 #[.pointer (some ⟨a.m, 0, none⟩)] w fun e w' =>
    ∃ p lb : Nat, e = .returned (.pointer (some ⟨p, 0, none⟩)) ∧ NatV w' p lb a.n 32 a.v ∧ w.heap.size ≤ p ∧ w.heap.size ≤ lb ∧ Keeps [] w w' := by
  obtain ⟨o, m0, rv, hb⟩ := ModX.modB h
  exact mod_Nat a.m a.p a.l a.n a.v m0 o rv w hb
theorem ma_BitLen (a : MA) (w : World) (h : a.is w) : Calls Tryz.prog 55 #[.pointer (some ⟨a.m, 0, none⟩)] w fun e w' =>
    e = .returned (.int .i64 (blen a.v : Int)) ∧ w = w' := by
  obtain ⟨o, m0, rv, hb⟩ := ModX.modB h
  exact mod_BitLen a.m a.p a.l a.n a.v m0 o rv w hb
/-- Bytes that were returned: so many, of that value. -/
def RetS (e : Ending) (w' : World) (B S v : Nat) : Prop :=
  ∃ (b : Nat) (O : List Nat), e = .returned (.slice (some ⟨b, 0, none⟩) S S) ∧ B ≤ b ∧ SlB w' (some ⟨b, 0, none⟩) S S O ∧ bval O = v
theorem ma_Bytes (p lb c v : Nat) (a : MA) (w : World) (hx : NatV w p lb a.n c v) (h : a.is w) (hv : v ≤ a.v) : Calls Tryz.prog 69 #[.pointer (some ⟨p, 0, none⟩), .pointer (some ⟨a.m, 0, none⟩)] w fun e w' =>
    RetS e w' w.heap.size ((blen a.v + 7) / 8) v ∧ Keeps [] w w' := by
  obtain ⟨o, m0, rv, hb⟩ := ModX.modB h
  refine (nat_Bytes_le p lb c v a.m a.p a.l a.n a.v m0 o rv w hx hb h.n31 hv).mono ?_
  rintro e w' ⟨⟨O, rfl, h1, h2, h3, h4⟩, hk⟩
  obtain ⟨a', c', h5, h6, _⟩ := SlB.of_own h4 h2
  simp only [Value.slice.injEq] at h5
  obtain ⟨h7, _, h8⟩ := h5
  subst h7 h8
  exact ⟨⟨_, O, rfl, Nat.le_refl _, h6, h3⟩, hk⟩
/-- What SetBytes leaves. -/
def SetR (e : Ending) (w' : World) (p lb : Nat) (a : MA) (mb v : Nat) : Prop :=
  (mb ≤ 8 * a.n ∧ v < a.v ∧ e = .returned (.tuple #[.pointer (some ⟨p, 0, none⟩), .nilIface]) ∧ NatV w' p lb a.n 32 v) ∨ (¬ (mb ≤ 8 * a.n ∧ v < a.v) ∧ ∃ t x, e = .returned (.tuple #[.pointer none, .iface t x]))
theorem ma_SetBytes (p lb k v : Nat) (a : MA) (s : Option Addr) (mb cb : Nat) (L : List Nat) (w : World) (hx : NatV w p lb k 32 v) (h : a.is w) (hs : SlB w s mb cb L) (hl : a.l ≠ lb) (hmb : mb ≤ 8000) :
    Calls Tryz.prog 52 #[.pointer (some ⟨p, 0, none⟩), .slice s mb cb, .pointer (some ⟨a.m, 0, none⟩)] w fun e w' =>
      SetR e w' p lb a mb (bval L) ∧ Keeps [p, lb] w w' := by
  obtain ⟨o, m0, rv, hb⟩ := ModX.modB h
  exact nat_SetBytes p lb k v a.m a.p a.l a.n a.v m0 o rv s mb cb L w hx hb hs hl h.n31 hmb h.gt
theorem ma_SetBytes_ok (p lb k v : Nat) (a : MA) (s : Option Addr) (mb cb : Nat) (L : List Nat) (w : World) (hx : NatV w p lb k 32 v) (h : a.is w) (hs : SlB w s mb cb L) (hl : a.l ≠ lb) (hmb : mb ≤ 8000) (hf : mb ≤ 8 * a.n ∧ bval L < a.v) :
    Calls Tryz.prog 52 #[.pointer (some ⟨p, 0, none⟩), .slice s mb cb, .pointer (some ⟨a.m, 0, none⟩)] w fun e w' =>
      e = .returned (.tuple #[.pointer (some ⟨p, 0, none⟩), .nilIface]) ∧ NatV w' p lb a.n 32 (bval L) ∧ Keeps [p, lb] w w' :=
  (ma_SetBytes p lb k v a s mb cb L w hx h hs hl hmb).mono (by
    rintro e w' ⟨⟨_, _, h1, h2⟩ | ⟨h1, _⟩, hk⟩
    · exact ⟨h1, h2, hk⟩
    · exact absurd hf h1)
theorem ma_SetBytes_no (p lb k v : Nat) (a : MA) (s : Option Addr) (mb cb : Nat) (L : List Nat) (w : World) (hx : NatV w p lb k 32 v) (h : a.is w) (hs : SlB w s mb cb L) (hl : a.l ≠ lb) (hmb : mb ≤ 8000) (hf : ¬ (mb ≤ 8 * a.n ∧ bval L < a.v)) :
    Calls Tryz.prog 52 #[.pointer (some ⟨p, 0, none⟩), .slice s mb cb, .pointer (some ⟨a.m, 0, none⟩)] w fun e w' =>
      (∃ t x, e = .returned (.tuple #[.pointer none, .iface t x])) ∧ Keeps [p, lb] w w' :=
  (ma_SetBytes p lb k v a s mb cb L w hx h hs hl hmb).mono (by
    rintro e w' ⟨⟨h1, h2, _, _⟩ | ⟨_, h1⟩, hk⟩
    · exact absurd ⟨h1, h2⟩ hf
    · exact ⟨h1, hk⟩)
/-- What NewModulus leaves. -/
def NewR (e : Ending) (w' : World) (B v : Nat) : Prop :=
  (1 < v ∧ ∃ a : MA, a.v = v ∧ a.n ≤ 30 ∧ a.is w' ∧ a.new B ∧ e = .returned (.tuple #[.pointer (some ⟨a.m, 0, none⟩), .nilIface])) ∨ (v ≤ 1 ∧ ∃ t x, e = .returned (.tuple #[.pointer none, .iface t x]))
theorem ma_NewMod (s : Option Addr) (mb cb : Nat) (L : List Nat) (w : World) (hs : SlB w s mb cb L) (hmb : mb ≤ 240) :
    Calls Tryz.prog 50 #[.slice s mb cb] w fun e w' => NewR e w' w.heap.size (bval L) ∧ Keeps [] w w' := by
  by_cases h1 : 1 < bval L
  · refine (newModulus_bytes_ok s mb cb L w hs hmb h1).mono ?_
    rintro e w' ⟨pm, pn, ln, pr, lr, n, rfl, hm, hn, q1, q2, q3, q4, q5, hk⟩
    exact ⟨.inl ⟨h1, ⟨pm, pn, ln, pr, lr, n, bval L⟩, rfl, hn, hm, ⟨q1, q2, q3, q4, q5⟩, rfl⟩, hk⟩
  · refine (newModulus_bytes_err s mb cb L w hs hmb (by omega)).mono ?_
    rintro e w' ⟨⟨v, rfl, t, x, rfl⟩, hk⟩
    exact ⟨.inr ⟨by omega, t, x, rfl⟩, hk⟩
theorem ma_Mod (p lb k v q lc kx c' u : Nat) (a : MA) (w : World) (hx : NatV w p lb k 32 v) (hq : NatV w q lc kx c' u) (h : a.is w) (hl : a.l ≠ lb) (hlc : lc ≠ lb) (hpq : p ≠ q) (hpn : p ≠ a.p) (hkx : kx ≤ 1000) :
    Calls Tryz.prog 70 #[.pointer (some ⟨p, 0, none⟩), .pointer (some ⟨q, 0, none⟩), .pointer (some ⟨a.m, 0, none⟩)] w fun e w' =>
      e = .returned (.pointer (some ⟨p, 0, none⟩)) ∧ NatV w' p lb a.n 32 (u % a.v) ∧ Keeps [p, lb] w w' := by
  obtain ⟨o, m0, rv, hb⟩ := ModX.modB h
  have h1 := h.n31; have h2 := h.gt
  exact nat_Mod p lb k 32 v q lc kx c' u a.m a.p a.l a.n a.v m0 o rv w hx hq hb hl hlc hpq hpn (by omega) (by omega) hkx h.npos (ModX.top h) (by omega)
theorem ma_Mul (p lb c v q lc c' u : Nat) (a : MA) (w : World) (hx : NatV w p lb a.n c v) (hy : NatV w q lc a.n c' u) (h : a.is w) (hl : a.l ≠ lb) (hc : c ≤ 1000) :
    Calls Tryz.prog 74 #[.pointer (some ⟨p, 0, none⟩), .pointer (some ⟨q, 0, none⟩), .pointer (some ⟨a.m, 0, none⟩)] w fun e w' =>
      e = .returned (.pointer (some ⟨p, 0, none⟩)) ∧ NatV w' p lb a.n c ((v * u) % a.v) ∧ Keeps [p, lb] w w' :=
  nat_Mul p lb c v q lc c' u a.m a.p a.l a.r a.s a.n a.v w hx hy h hl hc
theorem ma_ExpandFor (p lb k v : Nat) (a : MA) (w : World) (hx : NatV w p lb k 32 v) (h : a.is w) (hk : k ≤ a.n) :
    Calls Tryz.prog 73 #[.pointer (some ⟨p, 0, none⟩), .pointer (some ⟨a.m, 0, none⟩)] w fun e w' =>
      e = .returned (.pointer (some ⟨p, 0, none⟩)) ∧ NatV w' p lb a.n 32 v ∧ Keeps [p, lb] w w' := by
  obtain ⟨o, m0, rv, hb⟩ := ModX.modB h
  have h1 := h.n31
  exact nat_ExpandFor p lb k v a.m a.p a.l a.n a.v m0 o rv w hx hb hk (by omega)
theorem ma_SubOne (p lb c v : Nat) (a : MA) (w : World) (hx : NatV w p lb a.n c v) (h : a.is w) (hl : a.l ≠ lb) (hv : 0 < v) :
    Calls Tryz.prog 68 #[.pointer (some ⟨p, 0, none⟩), .pointer (some ⟨a.m, 0, none⟩)] w fun e w' =>
      e = .returned (.pointer (some ⟨p, 0, none⟩)) ∧ NatV w' p lb a.n c (v - 1) ∧ Keeps [lb] w w' := by
  obtain ⟨o, m0, rv, hb⟩ := ModX.modB h
  have h2 := h.gt
  exact nat_SubOne p lb a.n c v a.m a.p a.l a.v m0 o rv w hx hb hl (by omega) hv
/-- 0 less a number. -/
theorem ma_Sub0 (p lb c q lc c' u : Nat) (a : MA) (w : World) (hx : NatV w p lb a.n c 0) (hy : NatV w q lc a.n c' u) (h : a.is w) (hl : a.l ≠ lb) (hu0 : 0 < u) (hu : u < a.v) :
    Calls Tryz.prog 80 #[.pointer (some ⟨p, 0, none⟩), .pointer (some ⟨q, 0, none⟩), .pointer (some ⟨a.m, 0, none⟩)] w fun e w' =>
      e = .returned (.pointer (some ⟨p, 0, none⟩)) ∧ NatV w' p lb a.n c (a.v - u) ∧ Keeps [lb] w w' := by
  obtain ⟨o, m0, rv, hb⟩ := ModX.modB h
  refine (nat_Sub p lb q lc a.n c c' 0 u a.m a.p a.l a.v m0 o rv w hx hy hb hl (by omega)).mono ?_
  rintro e w' ⟨rfl, v', h1, h2, hx', hk⟩
  have : v' = a.v - u := by have := h2 (by omega); omega
  subst this
  exact ⟨rfl, hx', hk⟩
theorem ma_SetOver (p lb k v : Nat) (a : MA) (b mb : Nat) (L : List Nat) (w : World) (hx : NatV w p lb k 32 v) (h : a.is w) (hs : SlB w (some ⟨b, 0, none⟩) mb mb L) (hl : a.l ≠ lb) (hne : 0 < mb) (hmb : mb ≤ 8000) :
    Calls Tryz.prog 78 #[.pointer (some ⟨p, 0, none⟩), .slice (some ⟨b, 0, none⟩) mb mb, .pointer (some ⟨a.m, 0, none⟩)] w fun e w' =>
      OverR e w' p lb a.n (bval L) a.v ∧ Keeps [p, lb] w w' := by
  obtain ⟨o, m0, rv, hb⟩ := ModX.modB h
  have h1 := h.n31; have h2 := h.gt; have h3 := h.npos; have h4 := ModX.top h
  obtain ⟨s1, s2, s3, s4⟩ := hs
  have hL : L ≠ [] := by rintro rfl; simp at s1; omega
  obtain ⟨b', o', he, hbl, hB⟩ := s4 hL
  simp only [Option.some.injEq, Addr.mk.injEq, and_true] at he
  obtain ⟨rfl, rfl⟩ := he
  obtain ⟨k', hk'⟩ : ∃ k', a.n = k' + 1 := ⟨a.n - 1, by omega⟩
  rw [hk'] at hb h4 h1 ⊢
  exact nat_SetOver p lb k v a.m a.p a.l k' a.v m0 o rv b 0 mb mb L w hx hb hbl hB s1 s2 s3 hL hl h1 hmb (by omega) h4

/-- A private key with what is computed ahead. -/
structure PK where
  (pk : Nat) (N : MA) (E : Int) (d ld D : Nat) (P Q : MA) (aP : Addr) (mP cP : Nat) (LP : List Nat) (aQ : Option Addr) (mQ cQ : Nat) (LQ : List Nat) (i li QI : Nat)
def PK.cells (K : PK) (f : Bool) : Array Value := #[.pointer (some ⟨K.N.m, 0, none⟩), .int .i64 K.E, .pointer (some ⟨K.d, 0, none⟩), .pointer (some ⟨K.P.m, 0, none⟩), .pointer (some ⟨K.Q.m, 0, none⟩), .slice (some K.aP) K.mP K.cP, .slice K.aQ K.mQ K.cQ, .pointer (some ⟨K.i, 0, none⟩), .bool f]
def PK.hdr (K : PK) (w : World) (f : Bool) : Prop := w.heap[K.pk]? = some (.cells (K.cells f) 99 (0, 0))
theorem PK.hdr.lt {K : PK} {w : World} {f : Bool} (h : K.hdr w f) : K.pk < w.heap.size := lt_of_block h
theorem PK.hdr.cell {K : PK} {w : World} {f : Bool} (h : K.hdr w f) (j : Nat) : w.cell? ⟨K.pk, j, none⟩ = (K.cells f)[j]? := by
  unfold PK.hdr at h; simp [World.cell?, h]
theorem PK.hdr.free {K : PK} {w : World} {f : Bool} (h : K.hdr w f) (j : Nat) : w.frozen? ⟨K.pk, j, none⟩ = false := by
  unfold PK.hdr at h; simp [World.frozen?, h]
theorem PK.hdr.set {K : PK} {w : World} {f : Bool} (h : K.hdr w f) (b : Bool) : K.hdr (w.setCell ⟨K.pk, 8, none⟩ (.bool b)) b := MHdr.modify h (by simp [PK.cells])
theorem PK.hdr.ne_hdr {K : PK} {w : World} {f : Bool} {p lb n c : Nat} (h : K.hdr w f) (hr : Hdr w p lb n c) : p ≠ K.pk := by
  rintro rfl
  unfold PK.hdr at h
  unfold Hdr at hr
  rw [h] at hr
  have := congrArg (fun x => match x with | some (Obj.cells _ t _) => t | _ => 0) hr
  simp at this
theorem PK.hdr.ne_row {K : PK} {w : World} {f : Bool} {b : Nat} {L : List Nat} (h : K.hdr w f) (hr : Row w b L) : b ≠ K.pk := by
  rintro rfl
  unfold PK.hdr at h
  unfold Row at hr
  rw [h] at hr
  have := congrArg (fun x => match x with | some (Obj.cells _ t _) => t | _ => 0) hr
  simp at this
theorem PK.hdr.ne_mhdr {K : PK} {w : World} {f : Bool} {pm pn m0 : Nat} {odd : Bool} {rv : Value} (h : K.hdr w f) (hr : MHdr w pm pn odd m0 rv) : pm ≠ K.pk := by
  rintro rfl
  unfold PK.hdr at h
  unfold MHdr at hr
  rw [h] at hr
  have := congrArg (fun x => match x with | some (Obj.cells _ t _) => t | _ => 0) hr
  simp at this
theorem PK.hdr.ne_bytes {K : PK} {w : World} {f : Bool} {b o : Nat} {L : List Nat} (h : K.hdr w f) (hB : BAt w b o L) (hL : L ≠ []) : b ≠ K.pk := by
  rintro rfl
  have hl : 0 < L.length := List.length_pos_iff.2 hL
  have h1 := hB 0 hl
  rw [Nat.add_zero, h.cell] at h1
  have h2 : o < 9 := (Array.getElem?_eq_some_iff.1 h1).1
  obtain rfl | rfl | rfl | rfl | rfl | rfl | rfl | rfl | rfl : o = 0 ∨ o = 1 ∨ o = 2 ∨ o = 3 ∨ o = 4 ∨ o = 5 ∨ o = 6 ∨ o = 7 ∨ o = 8 := by omega
  all_goals simp [PK.cells] at h1
theorem SlB.keeps' {S : List Nat} {w w' : World} {a : Option Addr} {n c : Nat} {L : List Nat} (h : SlB w a n c L) (hk : Keeps S w w') (hS : ∀ b o, L ≠ [] → BAt w b o L → b ∉ S) : SlB w' a n c L := by
  obtain ⟨h1, h2, h3, h4⟩ := h
  refine ⟨h1, h2, h3, fun hL => ?_⟩
  obtain ⟨b, o, he, hb, hB⟩ := h4 hL
  exact ⟨b, o, he, Nat.lt_of_lt_of_le hb hk.size, hB.keeps hb hk (hS b o hL hB)⟩
theorem PK.hdr.natv {K : PK} {w w' : World} {f : Bool} {p lb n c v : Nat} (h : K.hdr w f) (hx : NatV w p lb n c v) (hk : Keeps [K.pk] w w') : NatV w' p lb n c v := by
  obtain ⟨M, hM⟩ := hx.row'
  exact hx.keeps hk (by simp [h.ne_hdr hx.hdr]) (by simp [h.ne_row hM])
theorem PK.hdr.ma {K : PK} {w w' : World} {f : Bool} {a : MA} (h : K.hdr w f) (hx : a.is w) (hk : Keeps [K.pk] w w') : a.is w' := by
  obtain ⟨o, m0, rv, hb⟩ := ModX.modB hx
  obtain ⟨M, hM⟩ := hb.nat.row'
  have h1 := h.ne_mhdr hb.hdr
  have h2 := h.ne_hdr hb.nat.hdr
  have h3 := h.ne_row hM
  have h4 : a.r ≠ K.pk ∧ a.s ≠ K.pk := by
    rcases hx.bod with ⟨_, m0, _, _, hr⟩ | ⟨_, hr, hs, _⟩
    · obtain ⟨M, hM⟩ := hr.row'
      exact ⟨h.ne_hdr hr.hdr, h.ne_row hM⟩
    · rw [hr, hs]; exact ⟨h1, h1⟩
  exact ModX.keeps hx hk (by simp [h1]) (by simp [h2]) (by simp [h3]) (by simp [h4.1]) (by simp [h4.2])
/-- A private key stands in a world. -/
structure PK.is (K : PK) (w : World) : Prop where
  hdr : ∃ f, K.hdr w f
  N : K.N.is w
  P : K.P.is w
  Q : K.Q.is w
  d : NatV w K.d K.ld K.N.n 32 K.D
  i : NatV w K.i K.li K.P.n 32 K.QI
  dP : SlB w (some K.aP) K.mP K.cP K.LP
  dQ : SlB w K.aQ K.mQ K.cQ K.LQ
  mP : K.mP ≤ 240
  mQ : K.mQ ≤ 240
  E : -9223372036854775808 ≤ K.E ∧ K.E < 9223372036854775808
  p30 : K.P.n ≤ 30
  q30 : K.Q.n ≤ 30
theorem PK.is.kept {K : PK} {w w' : World} (h : K.is w) (hk : Keeps [] w w') : K.is w' :=
  ⟨h.hdr.elim fun f hf => ⟨f, blk_keeps hf hk (by simp)⟩, h.N.kept hk, h.P.kept hk, h.Q.kept hk, h.d.kept hk, h.i.kept hk, h.dP.kept hk, h.dQ.kept hk, h.mP, h.mQ, h.E, h.p30, h.q30⟩
theorem PK.is.drew {K : PK} {w : World} (h : K.is w) : K.is w.drew := h.kept (Keeps.refl _ _).drew
theorem PK.is.store {K : PK} {w : World} (h : K.is w) (b : Bool) : K.is (w.setCell ⟨K.pk, 8, none⟩ (.bool b)) := by
  obtain ⟨f, hf⟩ := h.hdr
  have hk : Keeps [K.pk] w (w.setCell ⟨K.pk, 8, none⟩ (.bool b)) := (Keeps.refl _ _).setCell (by simp) _
  exact ⟨⟨b, hf.set b⟩, hf.ma h.N hk, hf.ma h.P hk, hf.ma h.Q hk, hf.natv h.d hk, hf.natv h.i hk, h.dP.keeps' hk (fun b o hL hB => by simp [hf.ne_bytes hB hL]), h.dQ.keeps' hk (fun b o hL hB => by simp [hf.ne_bytes hB hL]), h.mP, h.mQ, h.E, h.p30, h.q30⟩
theorem PK.is.c0 {K : PK} {w : World} (h : K.is w) : w.cell? ⟨K.pk, 0, none⟩ = some (.pointer (some ⟨K.N.m, 0, none⟩)) := by obtain ⟨f, hf⟩ := h.hdr; rw [hf.cell]; rfl
theorem PK.is.c1 {K : PK} {w : World} (h : K.is w) : w.cell? ⟨K.pk, 1, none⟩ = some (.int .i64 K.E) := by obtain ⟨f, hf⟩ := h.hdr; rw [hf.cell]; rfl
theorem PK.is.c2 {K : PK} {w : World} (h : K.is w) : w.cell? ⟨K.pk, 2, none⟩ = some (.pointer (some ⟨K.d, 0, none⟩)) := by obtain ⟨f, hf⟩ := h.hdr; rw [hf.cell]; rfl
theorem PK.is.c3 {K : PK} {w : World} (h : K.is w) : w.cell? ⟨K.pk, 3, none⟩ = some (.pointer (some ⟨K.P.m, 0, none⟩)) := by obtain ⟨f, hf⟩ := h.hdr; rw [hf.cell]; rfl
theorem PK.is.c4 {K : PK} {w : World} (h : K.is w) : w.cell? ⟨K.pk, 4, none⟩ = some (.pointer (some ⟨K.Q.m, 0, none⟩)) := by obtain ⟨f, hf⟩ := h.hdr; rw [hf.cell]; rfl
theorem PK.is.c5 {K : PK} {w : World} (h : K.is w) : w.cell? ⟨K.pk, 5, none⟩ = some (.slice (some K.aP) K.mP K.cP) := by obtain ⟨f, hf⟩ := h.hdr; rw [hf.cell]; rfl
theorem PK.is.c6 {K : PK} {w : World} (h : K.is w) : w.cell? ⟨K.pk, 6, none⟩ = some (.slice K.aQ K.mQ K.cQ) := by obtain ⟨f, hf⟩ := h.hdr; rw [hf.cell]; rfl
theorem PK.is.c7 {K : PK} {w : World} (h : K.is w) : w.cell? ⟨K.pk, 7, none⟩ = some (.pointer (some ⟨K.i, 0, none⟩)) := by obtain ⟨f, hf⟩ := h.hdr; rw [hf.cell]; rfl
theorem PK.is.c8 {K : PK} {w : World} (h : K.is w) : ∃ f, w.cell? ⟨K.pk, 8, none⟩ = some (.bool f) ∧ w.frozen? ⟨K.pk, 8, none⟩ = false := by
  obtain ⟨f, hf⟩ := h.hdr
  exact ⟨f, by rw [hf.cell]; rfl, hf.free 8⟩
theorem PK.is.pub {K : PK} {w : World} (h : K.is w) : PubC w K.pk K.N.m K.E := ⟨h.c0, h.c1⟩

end Go.Proofs.YtnfjmngchapdnaaGreatDoor
