import Derived.Test.YtnfjmngchapdnaaGreatDoorMAdd
/- bigmod: SubOne, Nat, BitLen, Size. -/
namespace Go.Proofs.YtnfjmngchapdnaaGreatDoor
open Go.RowKit

theorem NatV.set0 {w : World} {p lb n c : Nat} (h : NatV w p lb n c 0) (hn : 0 < n) (y : Nat) (hy : y < BB) : NatV (w.setCell ⟨lb, 0, none⟩ (.int .u64 (y : Int))) p lb n c y := by
  have hne := h.ne
  obtain ⟨hh, L, J, h1, h2, h3, h4, h5⟩ := h
  have hL : L = List.replicate n 0 := val_inj h4 (Lt.replicate n) (by simpa using h2) (by rw [h5, val_replicate])
  refine ⟨hh.other (a := ⟨lb, 0, none⟩) hne _, L.set 0 y, J, ?_, by simpa using h2, by simpa using h3, h4.set _ _ hy, ?_⟩
  · have := h1.set 0 y
    rw [List.set_append_left _ _ (by omega)] at this; exact this
  · have e := val_set L 0 y (by omega)
    have e2 : L[0]'(by omega) = 0 := by simp [hL]
    rw [e2, h5] at e
    simpa using e
theorem NatV.free0 {w : World} {p lb n c v : Nat} (h : NatV w p lb n c v) (i : Nat) : w.frozen? ⟨lb, i, none⟩ = false := by
  obtain ⟨_, L, J, h1, _⟩ := h; exact h1.free i
theorem NatV.cell0 {w : World} {p lb n c v : Nat} (h : NatV w p lb n c v) (hn : 0 < n) : ∃ x : Nat, w.cell? ⟨lb, 0, none⟩ = some (.int .u64 (x : Int)) ∧ x = v % BB := by
  obtain ⟨_, L, J, h1, h2, h3, h4, h5⟩ := h
  refine ⟨_, by simpa using h1.cell 0 (by simp; omega), ?_⟩
  rw [List.getElem_append_left (by omega), ← h5]
  cases L with
  | nil => simp at h2; omega
  | cons x L => simp only [val, List.getElem_cons_zero, Nat.add_mul_mod_self_left]; exact (Nat.mod_eq_of_lt h4.head).symm
theorem ModB.npos {w : World} {pm pn ln n m m0 : Nat} {odd : Bool} {rv : Value} (h : ModB w pm pn ln n m odd m0 rv) (hm : 0 < m) : 0 < n := by
  rcases Nat.eq_zero_or_pos n with h0 | h0
  · subst h0; have := h.nat.lt; simp at this; omega
  · exact h0

set_option maxRecDepth 100000 in
set_option maxHeartbeats 1000000 in
theorem nat_SubOne (p lb n c v pm pn ln m m0 : Nat) (odd : Bool) (rv : Value) (w : World) (hx : NatV w p lb n c v) (hm : ModB w pm pn ln n m odd m0 rv) (hl : ln ≠ lb) (hm1 : 0 < m) (hv : 0 < v) :
    Calls Tryz.prog 68 #[.pointer (some ⟨p, 0, none⟩), .pointer (some ⟨pm, 0, none⟩)] w fun e w' =>
      e = .returned (.pointer (some ⟨p, 0, none⟩)) ∧ NatV w' p lb n c (v - 1) ∧ Keeps [lb] w w' := by
  have hn0 := hm.npos hm1
  go_enter Tryz.func68, Tryz.ntmps68
  go_wp2_with fail
  refine (newNat_any _).mono ?_
  rintro e w1 ⟨pt, lt, rfl, ht, hpt, hlt, hk1⟩
  have o1 := hx.old hpt; have o2 := hx.old hlt; have o3 := hm.old hpt; have o4 := hm.old hlt
  have hm1' := hm.kept hk1
  go_wp2_with fail
  refine (nat_ExpandFor pt lt 0 0 pm pn ln n m m0 odd rv _ ht hm1' (by omega) (by omega)).mono ?_
  rintro e w2 ⟨rfl, ht2, hk2⟩
  have hx2 := (hx.kept hk1).keeps hk2 (by simp [o1.1, o2.1]) (by simp [o1.2, o2.2])
  have hm2 := hm1'.keeps hk2 (by simp [o3.1, o4.1]) (by simp [o3.2.1, o4.2.1]) (by simp [o3.2.2, o4.2.2])
  have c1 := ht2.hdr.cell
  have f1 := ht2.free0 0
  obtain ⟨x0, c0, _⟩ := ht2.cell0 hn0
  have ht3 := ht2.set0 hn0 1 (by unfold BB; omega)
  have hk3 : Keeps [lt] w2 (w2.setCell ⟨lt, 0, none⟩ (.int .u64 ((1 : Nat) : Int))) := (Keeps.refl _ _).setCell (by simp) _
  have hx3 := hx2.keeps hk3 (by simp [o2.1]) (by simp [o2.2])
  have hm3 := hm2.keeps hk3 (by simp [o4.1]) (by simp [o4.2.1]) (by simp [o4.2.2])
  have i0 : (0 : Int) < (n : Int) := by omega
  go_wp2_with fail
  refine (nat_Sub p lb pt lt n c 32 v 1 pm pn ln m m0 odd rv _ hx3 ht3 hm3 hl (by omega)).mono ?_
  rintro e w4 ⟨rfl, v', h1, h2, hx4, hk4⟩
  have e1 : v' = v - 1 := by have := h1 (by omega); omega
  subst e1
  have hkk : Keeps [lb] w w4 := by
    have a1 : Keeps [lb] w w1 := hk1.mono (by simp)
    have a2 : Keeps [lb] w w2 := a1.trans hk2 (by intro x hx hlt'; simp at hx; rcases hx with rfl | rfl <;> omega)
    have a3 := a2.trans hk3 (by intro x hx hlt'; simp at hx; subst hx; omega)
    exact a3.trans1 hk4
  clear h1 h2
  go_wp2
  go_ret
  exact ⟨rfl, hx4, hkk⟩

set_option maxRecDepth 100000 in
set_option maxHeartbeats 1000000 in
theorem mod_Nat (pm pn ln n m m0 : Nat) (odd : Bool) (rv : Value) (w : World) (hm : ModB w pm pn ln n m odd m0 rv) :
    Calls Tryz.prog 67 #[.pointer (some ⟨pm, 0, none⟩)] w fun e w' =>
      ∃ p lb : Nat, e = .returned (.pointer (some ⟨p, 0, none⟩)) ∧ NatV w' p lb n 32 m ∧ w.heap.size ≤ p ∧ w.heap.size ≤ lb ∧ Keeps [] w w' := by
  have hn32 := hm.nat.le
  go_enter Tryz.func67, Tryz.ntmps67
  go_wp2_with fail
  refine (newNat_any _).mono ?_
  rintro e w1 ⟨pt, lt, rfl, ht, hpt, hlt, hk1⟩
  have o3 := hm.old hpt; have o4 := hm.old hlt
  have hm1 := hm.kept hk1
  have c0 := hm1.hdr.c0
  go_wp2_with fail
  refine (nat_set pt lt pn ln 0 n 32 32 0 m _ ht hm1.nat hn32 (by omega) o3.2.1 o4.2.1 o3.2.2 o4.2.2).mono ?_
  rintro e w2 ⟨rfl, ht2, hk2⟩
  have hkk : Keeps [] w w2 := hk1.trans hk2 (by intro x hx hlt'; simp at hx; rcases hx with rfl | rfl <;> omega)
  go_wp2
  go_ret
  exact ⟨pt, lt, rfl, ht2, hpt, hlt, hkk⟩

set_option maxHeartbeats 1000000 in
theorem mod_BitLen (pm pn ln n m m0 : Nat) (odd : Bool) (rv : Value) (w : World) (hm : ModB w pm pn ln n m odd m0 rv) :
    Calls Tryz.prog 55 #[.pointer (some ⟨pm, 0, none⟩)] w fun e w' =>
      e = .returned (.int .i64 (blen m : Int)) ∧ w = w' := by
  have hn32 := hm.nat.le
  have c0 := hm.hdr.c0
  go_enter Tryz.func55, Tryz.ntmps55
  go_wp2_with fail
  refine (nat_BitLen pn ln n 32 m _ hm.nat (by omega)).mono ?_
  rintro e w1 ⟨rfl, rfl⟩
  go_wp2
  go_ret
  exact ⟨rfl, rfl⟩

theorem blen_le_n {n m : Nat} (h : m < BB ^ n) : blen m ≤ 64 * n := blen_le_of_lt (by rw [← BB_pow]; exact h)

set_option maxHeartbeats 1000000 in
theorem mod_Size (pm pn ln n m m0 : Nat) (odd : Bool) (rv : Value) (w : World) (hm : ModB w pm pn ln n m odd m0 rv) :
    Calls Tryz.prog 91 #[.pointer (some ⟨pm, 0, none⟩)] w fun e w' =>
      e = .returned (.int .i64 (((blen m + 7) / 8 : Nat) : Int)) ∧ w = w' := by
  have hn32 := hm.nat.le
  have hb := blen_le_n hm.nat.lt
  go_enter Tryz.func91, Tryz.ntmps91
  go_wp2_with fail
  refine (mod_BitLen pm pn ln n m m0 odd rv _ hm).mono ?_
  rintro e w1 ⟨rfl, rfl⟩
  go_wp2
  go_ret
  exact ⟨ret_int (by omega), rfl⟩

end Go.Proofs.YtnfjmngchapdnaaGreatDoor

/- bigmod: minusInverseModW. -/
namespace Go.Proofs.YtnfjmngchapdnaaGreatDoor
open Go.RowKit

def Dk : Nat → Int
  | 0 => 8
  | 1 => 64
  | 2 => 4096
  | 3 => 16777216
  | 4 => 281474976710656
  | _ => 18446744073709551616
theorem Dk_sq : ∀ k, k < 5 → Dk (k + 1) ∣ Dk k * Dk k := by
  intro k hk
  match k, hk with
  | 0, _ => exact ⟨1, by decide⟩
  | 1, _ => exact ⟨1, by decide⟩
  | 2, _ => exact ⟨1, by decide⟩
  | 3, _ => exact ⟨1, by decide⟩
  | 4, _ => exact ⟨4294967296, by decide⟩
theorem Dk_B : ∀ k, k ≤ 5 → Dk k ∣ 18446744073709551616 := by
  intro k hk
  match k, hk with
  | 0, _ => exact ⟨2305843009213693952, by decide⟩
  | 1, _ => exact ⟨288230376151711744, by decide⟩
  | 2, _ => exact ⟨4503599627370496, by decide⟩
  | 3, _ => exact ⟨1099511627776, by decide⟩
  | 4, _ => exact ⟨65536, by decide⟩
  | 5, _ => exact ⟨1, by decide⟩

theorem sq_ident (x z q B : Int) : x * (z * (2 - x * z) - B * q) - 1 = -((x * z - 1) * (x * z - 1)) - B * (q * x) := by
  have e1 : x * (z * (2 - x * z) - B * q) = (x * z) * (2 - x * z) - B * (q * x) := by
    rw [Int.mul_sub, ← Int.mul_assoc x z, Int.mul_comm x (B * q), Int.mul_assoc B q x]
  rw [e1]
  generalize x * z = a
  generalize B * (q * x) = b
  have e2 : a * (2 - a) = 2 * a - a * a := by rw [Int.mul_sub]; omega
  have e3 : (a - 1) * (a - 1) = a * a - 2 * a + 1 := by
    rw [Int.sub_mul, Int.mul_sub]; omega
  rw [e2, e3]
  omega

theorem inv_step {x z : Int} {k : Nat} (hk : k < 5) (h : Dk k ∣ x * z - 1) :
    Dk (k + 1) ∣ x * ((z * ((2 - (x * z) % 18446744073709551616) % 18446744073709551616)) % 18446744073709551616) - 1 := by
  have e : (z * ((2 - (x * z) % 18446744073709551616) % 18446744073709551616)) % 18446744073709551616 = (z * (2 - x * z)) % 18446744073709551616 := by
    rw [Int.mul_emod, Int.emod_emod, Int.sub_emod, Int.emod_emod, ← Int.sub_emod, ← Int.mul_emod]
  rw [e]
  have e2 := Int.emod_add_mul_ediv (z * (2 - x * z)) 18446744073709551616
  have e3 : (z * (2 - x * z)) % 18446744073709551616 = z * (2 - x * z) - 18446744073709551616 * (z * (2 - x * z) / 18446744073709551616) := by omega
  rw [e3, sq_ident]
  refine Int.dvd_sub (Int.dvd_neg.2 (Int.dvd_trans (Dk_sq k hk) (Int.mul_dvd_mul h h))) ?_
  exact Int.dvd_trans (Dk_B (k + 1) (by omega)) (Int.dvd_mul_right _ _)

theorem inv_start {x : Nat} (hx : x % 2 = 1) : Dk 0 ∣ (x : Int) * x - 1 := by
  have h8 : x % 8 = 1 ∨ x % 8 = 3 ∨ x % 8 = 5 ∨ x % 8 = 7 := by omega
  have e : x = 8 * (x / 8) + x % 8 := by omega
  have key : ∀ r : Nat, x % 8 = r → (r * r) % 8 = 1 → (x * x) % 8 = 1 := by
    intro r hr h
    rw [Nat.mul_mod, hr, h]
  have h1 : (x * x) % 8 = 1 := by
    rcases h8 with h | h | h | h
    · exact key 1 h (by decide)
    · exact key 3 h (by decide)
    · exact key 5 h (by decide)
    · exact key 7 h (by decide)
  refine Int.dvd_of_emod_eq_zero ?_
  show ((x : Int) * x - 1) % 8 = 0
  have h2 : ((x * x : Nat) : Int) = (x : Int) * x := Int.natCast_mul x x
  rw [← h2]
  omega

set_option maxRecDepth 100000 in
set_option maxHeartbeats 1000000 in
theorem minusInverse_any (x : Nat) (hx : x < BB) (ho : x % 2 = 1) (w : World) :
    Calls Tryz.prog 85 #[.int .u64 (x : Int)] w fun e w' => (∃ m0 : Nat, e = .returned (.int .u64 (m0 : Int)) ∧ m0 < BB ∧ (m0 * x + 1) % BB = 0) ∧ w = w' := by
  have h0 := Lib.hid (inv_start ho)
  have hx' : (x : Int) < 18446744073709551616 := by unfold BB at hx; omega
  have HX := Lib.hid hx'
  clear hx hx' ho
  go_enter Tryz.func85, Tryz.ntmps85
  go_wp2
  go_loop [3, 4] (fun y i => ∃ (k : Nat) (z : Int), i = .int .i64 k ∧ y = .int .u64 z ∧ k ≤ 5 ∧ Hid (0 ≤ z ∧ z < 18446744073709551616) ∧ Hid (Dk k ∣ (x : Int) * z - 1)) (fun _ i => 5 - (intOf i).toNat)
  case atStart => exact ⟨0, x, rfl, rfl, by omega, ⟨by omega, HX.out⟩, h0⟩
  case round =>
    obtain ⟨k, z, rfl, rfl, hk, hz, hd⟩ := hrel
    by_cases hlt : k < 5
    · have i1 : (k : Int) < 5 := by omega
      go_wp2
      go_round
      case measure => simp [intOf]; omega
      case rel =>
        refine ⟨k + 1, _, by go_num, rfl, by omega, ?_, ?_⟩
        · show _ ∧ _
          rw [IntKind.wrap_u64]
          exact ⟨Int.emod_nonneg _ (by omega), Int.emod_lt_of_pos _ (by omega)⟩
        · show _ ∣ _
          rw [IntKind.wrap_u64, IntKind.wrap_u64, IntKind.wrap_u64]
          exact inv_step hlt hd.out
    · have : k = 5 := by omega
      subst this
      have i1 : ¬ ((5 : Nat) : Int) < 5 := by omega
      go_wp2
      go_ret
      have hz' := hz.out
      refine ⟨⟨(IntKind.u64.wrap (-z)).toNat, ?_, ?_, ?_⟩, rfl⟩
      · refine ret_int ?_
        have : 0 ≤ IntKind.u64.wrap (-z) := by rw [IntKind.wrap_u64]; exact Int.emod_nonneg _ (by omega)
        rw [Int.toNat_of_nonneg this]
      · rw [IntKind.wrap_u64]; unfold BB; omega
      · have hd' : (18446744073709551616 : Int) ∣ (x : Int) * z - 1 := hd.out
        rw [IntKind.wrap_u64]
        have e : (((-z % 18446744073709551616).toNat * x + 1 : Nat) : Int) % 18446744073709551616 = 0 := by
          rw [Int.natCast_add, Int.natCast_mul, Int.toNat_of_nonneg (Int.emod_nonneg _ (by omega))]
          have h1 := Int.emod_add_mul_ediv (-z) 18446744073709551616
          have h2 : (-z % 18446744073709551616) = -z - 18446744073709551616 * (-z / 18446744073709551616) := by omega
          rw [h2, Int.sub_mul, Int.neg_mul]
          obtain ⟨q, hq⟩ := hd'
          rw [Int.mul_comm z, Int.mul_assoc]
          generalize -z / 18446744073709551616 * (x : Int) = r
          generalize (x : Int) * z = s at *
          refine Int.emod_eq_zero_of_dvd ⟨-q - r, ?_⟩
          rw [Int.mul_sub, Int.mul_neg, ← hq]
          omega
        have e' : ((((-z % 18446744073709551616).toNat * x + 1) % BB : Nat) : Int) = 0 := e
        exact Int.ofNat_eq_zero.1 e'

end Go.Proofs.YtnfjmngchapdnaaGreatDoor
