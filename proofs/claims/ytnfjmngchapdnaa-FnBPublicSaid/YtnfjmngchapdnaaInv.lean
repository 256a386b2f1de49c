/- bigmod: minusInverseModW. -/
import Derived.Test.YtnfjmngchapdnaaMod2
namespace Go.Proofs.Ytnfjmngchapdnaa
open Go.RowKit

def Dk : Nat → Int
  | 0 => 8
  | 1 => 64
  | 2 => 4096
  | 3 => 16777216
  | 4 => 281474976710656
  | _ => 18446744073709551616
theorem Dk_sq : ∀ k, k < 5 → Dk (k + 1) ∣ Dk k * Dk k := by
  intro k hk
  match k, hk with
  | 0, _ => exact ⟨1, by decide⟩
  | 1, _ => exact ⟨1, by decide⟩
  | 2, _ => exact ⟨1, by decide⟩
  | 3, _ => exact ⟨1, by decide⟩
  | 4, _ => exact ⟨4294967296, by decide⟩
theorem Dk_B : ∀ k, k ≤ 5 → Dk k ∣ 18446744073709551616 := by
  intro k hk
  match k, hk with
  | 0, _ => exact ⟨2305843009213693952, by decide⟩
  | 1, _ => exact ⟨288230376151711744, by decide⟩
  | 2, _ => exact ⟨4503599627370496, by decide⟩
  | 3, _ => exact ⟨1099511627776, by decide⟩
  | 4, _ => exact ⟨65536, by decide⟩
  | 5, _ => exact ⟨1, by decide⟩

theorem sq_ident (x z q B : Int) : x * (z * (2 - x * z) - B * q) - 1 = -((x * z - 1) * (x * z - 1)) - B * (q * x) := by
  have e1 : x * (z * (2 - x * z) - B * q) = (x * z) * (2 - x * z) - B * (q * x) := by
    rw [Int.mul_sub, ← Int.mul_assoc x z, Int.mul_comm x (B * q), Int.mul_assoc B q x]
  rw [e1]
  generalize x * z = a
  generalize B * (q * x) = b
  have e2 : a * (2 - a) = 2 * a - a * a := by rw [Int.mul_sub]; omega
  have e3 : (a - 1) * (a - 1) = a * a - 2 * a + 1 := by
    rw [Int.sub_mul, Int.mul_sub]; omega
  rw [e2, e3]
  omega

theorem inv_step {x z : Int} {k : Nat} (hk : k < 5) (h : Dk k ∣ x * z - 1) :
    Dk (k + 1) ∣ x * ((z * ((2 - (x * z) % 18446744073709551616) % 18446744073709551616)) % 18446744073709551616) - 1 := by
  have e : (z * ((2 - (x * z) % 18446744073709551616) % 18446744073709551616)) % 18446744073709551616 = (z * (2 - x * z)) % 18446744073709551616 := by
    rw [Int.mul_emod, Int.emod_emod, Int.sub_emod, Int.emod_emod, ← Int.sub_emod, ← Int.mul_emod]
  rw [e]
  have e2 := Int.emod_add_mul_ediv (z * (2 - x * z)) 18446744073709551616
  have e3 : (z * (2 - x * z)) % 18446744073709551616 = z * (2 - x * z) - 18446744073709551616 * (z * (2 - x * z) / 18446744073709551616) := by omega
  rw [e3, sq_ident]
  refine Int.dvd_sub (Int.dvd_neg.2 (Int.dvd_trans (Dk_sq k hk) (Int.mul_dvd_mul h h))) ?_
  exact Int.dvd_trans (Dk_B (k + 1) (by omega)) (Int.dvd_mul_right _ _)

theorem inv_start {x : Nat} (hx : x % 2 = 1) : Dk 0 ∣ (x : Int) * x - 1 := by
  have h8 : x % 8 = 1 ∨ x % 8 = 3 ∨ x % 8 = 5 ∨ x % 8 = 7 := by omega
  have e : x = 8 * (x / 8) + x % 8 := by omega
  have key : ∀ r : Nat, x % 8 = r → (r * r) % 8 = 1 → (x * x) % 8 = 1 := by
    intro r hr h
    rw [Nat.mul_mod, hr, h]
  have h1 : (x * x) % 8 = 1 := by
    rcases h8 with h | h | h | h
    · exact key 1 h (by decide)
    · exact key 3 h (by decide)
    · exact key 5 h (by decide)
    · exact key 7 h (by decide)
  refine Int.dvd_of_emod_eq_zero ?_
  show ((x : Int) * x - 1) % 8 = 0
  have h2 : ((x * x : Nat) : Int) = (x : Int) * x := Int.natCast_mul x x
  rw [← h2]
  omega

set_option maxRecDepth 100000 in
set_option maxHeartbeats 1000000 in
theorem minusInverse_any (x : Nat) (hx : x < BB) (ho : x % 2 = 1) (w : World) :
    Calls Try.prog 67 #[.int .u64 (x : Int)] w fun e w' => (∃ m0 : Nat, e = .returned (.int .u64 (m0 : Int)) ∧ m0 < BB ∧ (m0 * x + 1) % BB = 0) ∧ w = w' := by
  have h0 := Lib.hid (inv_start ho)
  have hx' : (x : Int) < 18446744073709551616 := by unfold BB at hx; omega
  have HX := Lib.hid hx'
  clear hx hx' ho
  go_enter Try.func67, Try.ntmps67
  go_wp2
  go_loop [3, 4] (fun y i => ∃ (k : Nat) (z : Int), i = .int .i64 k ∧ y = .int .u64 z ∧ k ≤ 5 ∧ Hid (0 ≤ z ∧ z < 18446744073709551616) ∧ Hid (Dk k ∣ (x : Int) * z - 1)) (fun _ i => 5 - (intOf i).toNat)
  case atStart => exact ⟨0, x, rfl, rfl, by omega, ⟨by omega, HX.out⟩, h0⟩
  case round =>
    obtain ⟨k, z, rfl, rfl, hk, hz, hd⟩ := hrel
    by_cases hlt : k < 5
    · have i1 : (k : Int) < 5 := by omega
      go_wp2
      go_round
      case measure => simp [intOf]; omega
      case rel =>
        refine ⟨k + 1, _, by go_num, rfl, by omega, ?_, ?_⟩
        · show _ ∧ _
          rw [IntKind.wrap_u64]
          exact ⟨Int.emod_nonneg _ (by omega), Int.emod_lt_of_pos _ (by omega)⟩
        · show _ ∣ _
          rw [IntKind.wrap_u64, IntKind.wrap_u64, IntKind.wrap_u64]
          exact inv_step hlt hd.out
    · have : k = 5 := by omega
      subst this
      have i1 : ¬ ((5 : Nat) : Int) < 5 := by omega
      go_wp2
      go_ret
      have hz' := hz.out
      refine ⟨⟨(IntKind.u64.wrap (-z)).toNat, ?_, ?_, ?_⟩, rfl⟩
      · refine ret_int ?_
        have : 0 ≤ IntKind.u64.wrap (-z) := by rw [IntKind.wrap_u64]; exact Int.emod_nonneg _ (by omega)
        rw [Int.toNat_of_nonneg this]
      · rw [IntKind.wrap_u64]; unfold BB; omega
      · have hd' : (18446744073709551616 : Int) ∣ (x : Int) * z - 1 := hd.out
        rw [IntKind.wrap_u64]
        have e : (((-z % 18446744073709551616).toNat * x + 1 : Nat) : Int) % 18446744073709551616 = 0 := by
          rw [Int.natCast_add, Int.natCast_mul, Int.toNat_of_nonneg (Int.emod_nonneg _ (by omega))]
          have h1 := Int.emod_add_mul_ediv (-z) 18446744073709551616
          have h2 : (-z % 18446744073709551616) = -z - 18446744073709551616 * (-z / 18446744073709551616) := by omega
          rw [h2, Int.sub_mul, Int.neg_mul]
          obtain ⟨q, hq⟩ := hd'
          rw [Int.mul_comm z, Int.mul_assoc]
          generalize -z / 18446744073709551616 * (x : Int) = r
          generalize (x : Int) * z = s at *
          refine Int.emod_eq_zero_of_dvd ⟨-q - r, ?_⟩
          rw [Int.mul_sub, Int.mul_neg, ← hq]
          omega
        have e' : ((((-z % 18446744073709551616).toNat * x + 1) % BB : Nat) : Int) = 0 := e
        exact Int.ofNat_eq_zero.1 e'

end Go.Proofs.Ytnfjmngchapdnaa
