import Derived.Test.YtnfjmngchapdnaaGreatDoorMMontC
/- bigmod: rr. -/
namespace Go.Proofs.YtnfjmngchapdnaaGreatDoor
open Go.RowKit

theorem NatV.setk {w : World} {p lb n c : Nat} (h : NatV w p lb n c 0) (k : Nat) (hk : k < n) (y : Nat) (hy : y < BB) : NatV (w.setCell ⟨lb, k, none⟩ (.int .u64 (y : Int))) p lb n c (BB ^ k * y) := by
  have hne := h.ne
  obtain ⟨hh, L, J, h1, h2, h3, h4, h5⟩ := h
  have hL : L = List.replicate n 0 := val_inj h4 (Lt.replicate n) (by simpa using h2) (by rw [h5, val_replicate])
  refine ⟨hh.other (a := ⟨lb, k, none⟩) hne _, L.set k y, J, ?_, by simpa using h2, by simpa using h3, h4.set _ _ hy, ?_⟩
  · have := h1.set k y
    rw [List.set_append_left _ _ (by omega)] at this; exact this
  · have e := val_set L k y (by omega)
    have e2 : L[k]'(by omega) = 0 := by simp [hL]
    rw [e2, h5] at e
    simpa using e
theorem NatV.cellk {w : World} {p lb n c v : Nat} (h : NatV w p lb n c v) (k : Nat) (hk : k < n) : ∃ x : Nat, w.cell? ⟨lb, k, none⟩ = some (.int .u64 (x : Int)) := by
  obtain ⟨_, L, J, h1, h2, h3, h4, h5⟩ := h
  exact ⟨_, h1.cell k (by simp; omega)⟩

theorem wrap_pow {k : Nat} (h : k < 64) : IntKind.u64.wrap (2 ^ k) = ((2 ^ k : Nat) : Int) := by
  have h1 : 2 ^ k < 2 ^ 64 := Nat.pow_lt_pow_right (by omega) h
  rw [IntKind.wrap_u64, Int.natCast_pow]
  have e : ((2 : Nat) : Int) = 2 := rfl
  rw [e]
  have h2 : ((2 ^ k : Nat) : Int) = 2 ^ k := by rw [Int.natCast_pow]; rfl
  rw [← h2]
  have h3 : 2 ^ k < 18446744073709551616 := h1
  exact Int.emod_eq_of_lt (Int.natCast_nonneg _) (Int.ofNat_lt.2 h3)
theorem dbl_mod (k m : Nat) : ((2 ^ k % m) + (2 ^ k % m)) % m = 2 ^ (k + 1) % m := by
  rw [← Nat.add_mod, Nat.pow_succ]
  congr 1
  omega
theorem mod_cancel {m R a b : Nat} (hc : Nat.Coprime m R) (h : (a * R) % m = (b * R) % m) : a % m = b % m := by
  have key : ∀ a b : Nat, a ≤ b → (a * R) % m = (b * R) % m → a % m = b % m := by
    intro a b hab h
    have h1 : m ∣ b * R - a * R := Nat.dvd_of_mod_eq_zero (Nat.sub_mod_eq_zero_of_mod_eq h.symm)
    rw [← Nat.sub_mul] at h1
    have h2 := hc.dvd_of_dvd_mul_right h1
    obtain ⟨q, hq⟩ := h2
    have : b = a + m * q := by omega
    rw [this, Nat.add_mul_mod_self_left]
  rcases Nat.le_total a b with h1 | h1
  · exact key a b h1 h
  · exact (key b a h1 h.symm).symm
theorem coprime_pow {m : Nat} (h : m % 2 = 1) (k : Nat) : Nat.Coprime m (2 ^ k) := by
  have h2 : Nat.Coprime m 2 := by
    unfold Nat.Coprime
    have h3 : Nat.gcd m 2 ∣ 2 := Nat.gcd_dvd_right m 2
    have h4 : Nat.gcd m 2 ∣ m := Nat.gcd_dvd_left m 2
    have h5 : Nat.gcd m 2 ≤ 2 := Nat.le_of_dvd (by omega) h3
    have h6 : Nat.gcd m 2 ≠ 0 := by intro e; rw [e] at h3; simp at h3
    have h7 : Nat.gcd m 2 ≠ 2 := by intro e; rw [e] at h4; omega
    omega
  exact Nat.Coprime.pow_right k h2

/-- A product by Montgomery, its first factor perhaps above m. -/
theorem mont_gen (px lx kx cx vx pa la ca a pb lb cb b pm pn ln n m m0 : Nat) (odd : Bool) (rv : Value) (w : World) (hx : NatV w px lx kx cx vx) (ha : NatV w pa la n ca a) (hb : NatV w pb lb n cb b)
    (hm : ModB w pm pn ln n m odd m0 rv) (hinv : (m0 * m + 1) % BB = 0) (hl : ln ≠ lx) (hcx : n ≤ cx) (hcx' : cx ≤ 1000) (ham : a * b ≤ m * BB ^ n ∧ 0 < m) (hn31 : n ≤ 31) :
    Calls Tryz.prog 94 #[.pointer (some ⟨px, 0, none⟩), .pointer (some ⟨pa, 0, none⟩), .pointer (some ⟨pb, 0, none⟩), .pointer (some ⟨pm, 0, none⟩)] w fun e w' =>
      e = .returned (.pointer (some ⟨px, 0, none⟩)) ∧ ∃ v', v' < m ∧ (v' * BB ^ n) % m = (a * b) % m ∧ NatV w' px lx n cx v' ∧ Keeps [px, lx] w w' := by
  by_cases h16 : n = 16
  · subst h16
    exact mont_16 px lx kx cx vx pa la ca a pb lb cb b pm pn ln m m0 odd rv w hx ha hb hm hinv hl hcx hcx' ham
  · by_cases h24 : n = 24
    · subst h24
      exact mont_24 px lx kx cx vx pa la ca a pb lb cb b pm pn ln m m0 odd rv w hx ha hb hm hinv hl hcx hcx' ham
    · exact mont_default px lx kx cx vx pa la ca a pb lb cb b pm pn ln n m m0 odd rv w hx ha hb hm hinv hl hcx hcx' ham h16 h24 hn31

theorem mont_any (px lx kx cx vx pa la ca a pb lb cb b pm pn ln n m m0 : Nat) (odd : Bool) (rv : Value) (w : World) (hx : NatV w px lx kx cx vx) (ha : NatV w pa la n ca a) (hb : NatV w pb lb n cb b)
    (hm : ModB w pm pn ln n m odd m0 rv) (hinv : (m0 * m + 1) % BB = 0) (hl : ln ≠ lx) (hcx : n ≤ cx) (hcx' : cx ≤ 1000) (ham : a < m) (hn31 : n ≤ 31) :
    Calls Tryz.prog 94 #[.pointer (some ⟨px, 0, none⟩), .pointer (some ⟨pa, 0, none⟩), .pointer (some ⟨pb, 0, none⟩), .pointer (some ⟨pm, 0, none⟩)] w fun e w' =>
      e = .returned (.pointer (some ⟨px, 0, none⟩)) ∧ ∃ v', v' < m ∧ (v' * BB ^ n) % m = (a * b) % m ∧ NatV w' px lx n cx v' ∧ Keeps [px, lx] w w' :=
  mont_gen px lx kx cx vx pa la ca a pb lb cb b pm pn ln n m m0 odd rv w hx ha hb hm hinv hl hcx hcx' ⟨Nat.mul_le_mul (Nat.le_of_lt ham) (Nat.le_of_lt hb.lt), by omega⟩ hn31

theorem mont_sq {m n e v v' : Nat} (hodd : m % 2 = 1) (hv : v = 2 ^ (64 * n + e) % m) (hlt : v' < m) (h : (v' * BB ^ n) % m = (v * v) % m) : v' = 2 ^ (64 * n + 2 * e) % m := by
  rw [← Nat.mod_eq_of_lt hlt]
  apply mod_cancel (coprime_pow hodd (64 * n))
  rw [BB_pow] at h
  rw [h, hv, ← Nat.mul_mod, ← Nat.pow_add, ← Nat.pow_add]
  congr 2; omega
theorem shr_two (x i : Nat) (h : 0 < i) : x / 2 ^ (i - 1) = 2 * (x / 2 ^ i) + (x / 2 ^ (i - 1)) % 2 := by
  have e : x / 2 ^ i = x / 2 ^ (i - 1) / 2 := by
    rw [Nat.div_div_eq_div_mul, ← Nat.pow_succ]; congr 2; omega
  rw [e]; omega

set_option maxRecDepth 100000 in
set_option maxHeartbeats 2000000 in
theorem rr_any (pm pn ln n m m0 : Nat) (odd : Bool) (rv : Value) (w : World) (hm : ModB w pm pn ln n m odd m0 rv) (hinv : (m0 * m + 1) % BB = 0) (hodd : m % 2 = 1) (hgt : 1 < m) (htop : BB ^ (n - 1) ≤ m) (hn : n ≤ 31) :
    Calls Tryz.prog 86 #[.pointer (some ⟨pm, 0, none⟩)] w fun e w' =>
      ∃ p lb : Nat, e = .returned (.pointer (some ⟨p, 0, none⟩)) ∧ NatV w' p lb n 32 ((BB ^ n * BB ^ n) % m) ∧ w.heap.size ≤ p ∧ w.heap.size ≤ lb ∧ Keeps [] w w' := by
  have hn0 := hm.npos (by omega)
  have hmP := hm.nat.lt
  obtain ⟨l, hl⟩ : ∃ l, l = blen m := ⟨_, rfl⟩
  have hl1 : 64 * (n - 1) < l := by
    rw [hl]
    rcases Nat.lt_or_ge (64 * (n - 1)) (blen m) with h | h
    · exact h
    · have := lt_of_blen_le h
      rw [← BB_pow] at this; omega
  have hl2 : l ≤ 64 * n := by rw [hl]; exact blen_le_n hmP
  go_enter Tryz.func86, Tryz.ntmps86
  go_wp2_with fail
  refine (newNat_any _).mono ?_
  rintro e w1 ⟨p, lb, rfl, ht, hpt, hlt, hk1⟩
  have o3 := hm.old hpt; have o4 := hm.old hlt
  have hm1 := hm.kept hk1
  go_wp2_with fail
  refine (nat_ExpandFor p lb 0 0 pm pn ln n m m0 odd rv _ ht hm1 (by omega) (by omega)).mono ?_
  rintro e w2 ⟨rfl, ht2, hk2⟩
  have hm2 := hm1.keeps hk2 (by simp [o3.1, o4.1]) (by simp [o3.2.1, o4.2.1]) (by simp [o3.2.2, o4.2.2])
  have c1 := ht2.hdr.cell
  go_wp2_with fail
  refine (mod_BitLen pm pn ln n m m0 odd rv _ hm2).mono ?_
  rintro e w3 ⟨rfl, rfl⟩
  rw [← hl]
  obtain ⟨x0, cx⟩ := ht2.cellk (n - 1) (by omega)
  have fx := ht2.free0 (n - 1)
  have i1 : (0 : Int) ≤ (n : Int) - 1 := by omega
  have i2 : (n : Int) - 1 < (n : Int) := by omega
  have hl0 : 2 ≤ l := by
    rw [hl]
    rcases Nat.lt_or_ge (blen m) 2 with h | h
    · have := lt_of_blen_le (n := m) (k := 1) (by omega); omega
    · exact h
  obtain ⟨y, hy⟩ : ∃ y : Nat, y = 2 ^ ((l - 1) % 64) := ⟨_, rfl⟩
  have hw : IntKind.u64.wrap (2 ^ ((l - 1) % 64)) = (y : Int) := by rw [hy]; exact wrap_pow (by omega)
  have hyB : y < BB := by rw [hy, BB_eq]; exact Nat.pow_lt_pow_right (by omega) (by omega)
  have ht3 := ht2.setk (n - 1) (by omega) y hyB
  have e1 : BB ^ (n - 1) * y = 2 ^ (l - 1) := by
    rw [hy, BB_pow, ← Nat.pow_add]; congr 1; omega
  have hlm : 2 ^ (l - 1) < m := by
    have h1 := blen_le (n := m) (by omega)
    rw [← hl] at h1
    rcases Nat.lt_or_ge (2 ^ (l - 1)) m with h | h
    · exact h
    · have : m = 2 ^ (l - 1) := by omega
      have h3 : 2 ^ (l - 1) = 2 * 2 ^ (l - 2) := by rw [← Nat.pow_succ']; congr 1; omega
      omega
  rw [e1, ← Nat.mod_eq_of_lt hlm] at ht3
  have hk3 : Keeps [lb] w2 (w2.setCell ⟨lb, n - 1, none⟩ (.int .u64 (y : Int))) := (Keeps.refl _ _).setCell (by simp) _
  have hm3 := hm2.keeps hk3 (by simp [o4.1]) (by simp [o4.2.1]) (by simp [o4.2.2])
  have hkw : Keeps [] w (w2.setCell ⟨lb, n - 1, none⟩ (.int .u64 (y : Int))) := by
    have a2 : Keeps [] w w2 := hk1.trans hk2 (by intro x hx hlt'; simp at hx; rcases hx with rfl | rfl <;> omega)
    exact a2.trans hk3 (by intro x hx hlt'; simp at hx; subst hx; omega)
  have Hl := Lib.hid hl
  have HT3 := Lib.hid ht3; have HM3 := Lib.hid hm3; have HKW := Lib.hid hkw
  have Hhl := Lib.hid hlm; have Hy := Lib.hid hy
  have Hodd := Lib.hid hodd; have Hinv := Lib.hid hinv
  clear hl ht hm1 ht2 hm2 e1 hlm hy ht3 hm3 hkw hk1 hk2 hk3 hodd hinv
  have h64 : 64 * n ≤ 2000 := by omega
  go_wp2
  clear c1 cx fx hw
  go_loopw [7] (fun ii wr => ∃ k : Nat, ii = .int .u64 (k : Int) ∧ k ≤ 64 * n ∧ NatV wr p lb n 32 (2 ^ k % m) ∧ ModB wr pm pn ln n m odd m0 rv ∧ Keeps [] w wr) (fun ii _ => 64 * n - (intOf ii).toNat)
  case atStart => exact ⟨l - 1, by go_num, by omega, HT3.out, HM3.out, HKW.out⟩
  case round =>
    obtain ⟨k, rfl, hk, hv, hmm, hkp⟩ := hrel
    by_cases hlt' : k < 64 * n
    · have i3 : (k : Int) < 64 * (n : Int) := by omega
      have hvm : 2 ^ k % m < m := Nat.mod_lt _ (by omega)
      go_wp2_with fail
      refine (nat_Add p lb p lb n 32 32 (2 ^ k % m) (2 ^ k % m) pm pn ln m m0 odd rv _ hv hv hmm o4.2.2 hvm hvm).mono ?_
      rintro e w5 ⟨rfl, hx5, hk5⟩
      rw [dbl_mod] at hx5
      have hm5 := hmm.keeps hk5 (by simp [o4.1]) (by simp [o4.2.1]) (by simp [o4.2.2])
      go_wp2
      refine ⟨⟨k + 1, by go_num, by omega, hx5, hm5, hkp.trans hk5 (by intro x hx hlt'; simp at hx; subst hx; omega)⟩, by simp [intOf]; omega⟩
    · have hke : k = 64 * n := by omega
      subst hke
      have i3 : ¬ (((64 * n : Nat) : Int) < 64 * (n : Int)) := by omega
      have HV := Lib.hid hv; have HMM := Lib.hid hmm; have HKP := Lib.hid hkp
      clear hv hmm hkp HT3 HM3 HKW
      go_wp2
      go_loopw [9] (fun ii wr => ∃ i : Nat, ii = .int .i64 (i : Int) ∧ i ≤ 64 ∧ NatV wr p lb n 32 (2 ^ (64 * n) % m) ∧ ModB wr pm pn ln n m odd m0 rv ∧ Keeps [] w wr) (fun ii _ => (intOf ii).toNat)
      case atStart => exact ⟨64, by go_num, by omega, HV.out, HMM.out, HKP.out⟩
      case round =>
        obtain ⟨i, rfl, hi, hv, hmm, hkp⟩ := hrel
        have HV := Lib.hid hv; have HMM := Lib.hid hmm; have HKP := Lib.hid hkp
        clear hv hmm hkp
        by_cases hsh : 64 * (n : Int) / 2 ^ i ≤ (n : Int) / 4
        · have hi0 : 0 < i := by
            rcases Nat.eq_zero_or_pos i with h | h
            · subst h; simp at hsh; omega
            · exact h
          go_wp2
          refine ⟨⟨i - 1, by go_num, by omega, HV.out, HMM.out, HKP.out⟩, by simp [intOf]; omega⟩
        · go_wp2
          obtain ⟨E, hE⟩ : ∃ E : Nat, E = 64 * n / 2 ^ i := ⟨_, rfl⟩
          have hEi : 64 * (n : Int) / 2 ^ i = (E : Int) := by rw [hE]; simp
          have hE2 : E ≤ 64 * n := by rw [hE]; exact Nat.div_le_self _ _
          have HE := Lib.hid hE; have HEi := Lib.hid hEi
          clear hE hEi hsh
          go_loopw [10] (fun ii wr => ∃ k : Nat, ii = .int .u64 (k : Int) ∧ k ≤ E ∧ NatV wr p lb n 32 (2 ^ (64 * n + k) % m) ∧ ModB wr pm pn ln n m odd m0 rv ∧ Keeps [] w wr) (fun ii _ => E - (intOf ii).toNat)
          case atStart => exact ⟨0, by go_num, by omega, HV.out, HMM.out, HKP.out⟩
          case round =>
            obtain ⟨k, rfl, hk, hv, hmm, hkp⟩ := hrel
            by_cases hlt' : k < E
            · have i3 : (k : Int) < 64 * (n : Int) / 2 ^ i := by rw [HEi.out]; omega
              have hvm : 2 ^ (64 * n + k) % m < m := Nat.mod_lt _ (by omega)
              go_wp2_with fail
              refine (nat_Add p lb p lb n 32 32 (2 ^ (64 * n + k) % m) (2 ^ (64 * n + k) % m) pm pn ln m m0 odd rv _ hv hv hmm o4.2.2 hvm hvm).mono ?_
              rintro e w5 ⟨rfl, hx5, hk5⟩
              rw [dbl_mod] at hx5
              have hm5 := hmm.keeps hk5 (by simp [o4.1]) (by simp [o4.2.1]) (by simp [o4.2.2])
              go_wp2
              refine ⟨⟨k + 1, by go_num, by omega, hx5, hm5, hkp.trans hk5 (by intro x hx hlt'; simp at hx; subst hx; omega)⟩, by simp [intOf]; omega⟩
            · have hke : k = E := by omega
              have hke2 : k = 64 * n / 2 ^ i := by rw [hke]; exact HE.out
              have i3 : ¬ ((k : Int) < 64 * (n : Int) / 2 ^ i) := by rw [HEi.out]; omega
              rw [hke2] at hv
              have HV := Lib.hid hv; have HMM := Lib.hid hmm; have HKP := Lib.hid hkp
              clear hv hmm hkp hke2
              go_wp2
              clear i3 HE HEi hke hE2
              go_loopw [9] (fun ii wr => ∃ i : Nat, ii = .int .i64 (i : Int) ∧ i ≤ 64 ∧ NatV wr p lb n 32 (2 ^ (64 * n + 64 * n / 2 ^ i) % m) ∧ ModB wr pm pn ln n m odd m0 rv ∧ Keeps [] w wr) (fun ii _ => (intOf ii).toNat)
              case atStart => exact ⟨i, by go_num, by omega, HV.out, HMM.out, HKP.out⟩
              case round =>
                clear hi
                obtain ⟨i, rfl, hi, hv, hmm, hkp⟩ := hrel
                by_cases hi0 : 0 < i
                · have hvm : 2 ^ (64 * n + 64 * n / 2 ^ i) % m < m := Nat.mod_lt _ (by omega)
                  go_wp2_with fail
                  refine (mont_any p lb n 32 _ p lb 32 _ p lb 32 _ pm pn ln n m m0 odd rv _ hv hv hv hmm Hinv.out o4.2.2 (by omega) (by omega) hvm (by omega)).mono ?_
                  rintro e w5 ⟨rfl, v', hvlt, hveq, hx5, hk5⟩
                  have hv' := mont_sq Hodd.out rfl hvlt hveq
                  have hm5 := hmm.keeps hk5 (by simp [o4.1, o3.1]) (by simp [o4.2.1, o3.2.1]) (by simp [o4.2.2, o3.2.2])
                  have hk5' := hkp.trans hk5 (by intro x hx hlt'; simp at hx; omega)
                  have hs2 := shr_two (64 * n) i hi0
                  obtain ⟨E, hE⟩ : ∃ E : Nat, E = 64 * n / 2 ^ (i - 1) := ⟨_, rfl⟩
                  have hEi : 64 * (n : Int) / 2 ^ (i - 1) = (E : Int) := by rw [hE]; simp
                  rw [← hE] at hs2
                  have hE3 : E ≤ 64 * n := by rw [hE]; exact Nat.div_le_self _ _
                  have hEB : E < BB := by rw [BB_eq]; omega
                  have hand := and_one E hEB
                  have hlt5 : v' < m := hvlt
                  have hvlt' : 2 ^ (64 * n + 2 * (64 * n / 2 ^ i)) % m < m := by rw [← hv']; exact hvlt
                  rw [hv'] at hx5
                  have HE := Lib.hid hE; have HS2 := Lib.hid hs2
                  have HX := Lib.hid hx5; have HM5 := Lib.hid hm5; have HK5 := Lib.hid hk5'
                  clear hveq hv hmm hkp hv' hE hs2 hx5 hm5 hk5 hk5' hEB
                  rcases Nat.mod_two_eq_zero_or_one E with hb | hb
                  · rw [hb] at hand
                    have hand' : Go.bits .and .u64 (E : Int) 1 = 0 := hand
                    clear hand
                    go_wp2
                    refine ⟨⟨i - 1, by go_num, by omega, ?_, HM5.out, HK5.out⟩, by simp [intOf]; omega⟩
                    have h1 := HX.out
                    have h2 := HS2.out
                    rw [hb] at h2
                    rw [← HE.out, h2]; exact h1
                  · rw [hb] at hand
                    have hand' : Go.bits .and .u64 (E : Int) 1 = 1 := hand
                    clear hand
                    go_wp2_with fail
                    refine (nat_Add p lb p lb n 32 32 _ _ pm pn ln m m0 odd rv _ HX.out HX.out HM5.out o4.2.2 hvlt' hvlt').mono ?_
                    rintro e w6 ⟨rfl, hx6, hk6⟩
                    rw [dbl_mod] at hx6
                    have hm6 := HM5.out.keeps hk6 (by simp [o4.1]) (by simp [o4.2.1]) (by simp [o4.2.2])
                    have hkk := HK5.out.trans hk6 (by intro x hx hlt'; simp at hx; subst hx; omega)
                    have HX6 := Lib.hid hx6; have HM6 := Lib.hid hm6; have HK6 := Lib.hid hkk
                    clear hx6 hm6 hk6 hkk
                    go_wp2
                    refine ⟨⟨i - 1, by go_num, by omega, ?_, HM6.out, HK6.out⟩, by simp [intOf]; omega⟩
                    have h1 := HX6.out
                    have h2 := HS2.out
                    rw [hb] at h2
                    rw [← HE.out, h2, ← Nat.add_assoc]; exact h1
                · have hiz : i = 0 := by omega
                  have e1 : 2 ^ (64 * n + 64 * n / 2 ^ i) % m = (BB ^ n * BB ^ n) % m := by
                    rw [BB_pow, ← Nat.pow_add, hiz]; simp
                  rw [e1] at hv
                  clear e1 hiz
                  go_wp2
                  refine ⟨rfl, .pointer (some ⟨p, 0, none⟩), by rw [results_tmp (t := 2) rfl]; rfl, p, lb, rfl, hv, hpt, hlt, hkp⟩

end Go.Proofs.YtnfjmngchapdnaaGreatDoor
