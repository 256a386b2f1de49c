/- bigmod: choices, masks, equality of words. -/
import Derived.Test.YtnfjmngchapdnaaBits
import Derived.Test.YtnfjmngchapdnaaMem
import Derived.Test.YtnfjmngchapdnaaTxt
namespace Go.Proofs.Ytnfjmngchapdnaa
open Go.RowKit

theorem ret_int {k : IntKind} {a b : Int} (h : a = b) : Ending.returned (.int k a) = .returned (.int k b) := by rw [h]

/-- c is the choice that says whether p. -/
structure Ch (p : Prop) (c : Nat) : Prop where
  le : c ≤ 1
  iff : c = 1 ↔ p
theorem Ch.yes {p : Prop} {c : Nat} (h : Ch p c) (hp : p) : c = 1 := h.iff.2 hp
theorem Ch.no {p : Prop} {c : Nat} (h : Ch p c) (hp : ¬ p) : c = 0 := by
  have := h.le; have h2 : c ≠ 1 := fun e => hp (h.iff.1 e); omega
theorem Ch.congr {p q : Prop} {c : Nat} (h : Ch p c) (e : p ↔ q) : Ch q c := ⟨h.le, h.iff.trans e⟩
theorem Ch.one : Ch True 1 := ⟨by omega, by simp⟩
theorem Ch.zero : Ch False 0 := ⟨by omega, by simp⟩
theorem Ch.case {p : Prop} {c : Nat} (h : Ch p c) : (c = 0 ∧ ¬ p) ∨ (c = 1 ∧ p) := by
  have := h.le
  by_cases hp : p
  · exact .inr ⟨h.yes hp, hp⟩
  · exact .inl ⟨h.no hp, hp⟩
theorem Ch.ite (p : Prop) [Decidable p] : Ch p (if p then 1 else 0) := by split <;> constructor <;> simp_all

theorem and_ch {p q : Prop} {c d : Nat} (hc : Ch p c) (hd : Ch q d) : ∃ r : Nat, Go.bits .and .u64 (c : Int) (d : Int) = (r : Int) ∧ Ch (p ∧ q) r := by
  rcases hc.case with ⟨rfl, h1⟩ | ⟨rfl, h1⟩ <;> rcases hd.case with ⟨rfl, h2⟩ | ⟨rfl, h2⟩
  · exact ⟨0, rfl, by omega, by simp [h1]⟩
  · exact ⟨0, rfl, by omega, by simp [h1]⟩
  · exact ⟨0, rfl, by omega, by simp [h2]⟩
  · exact ⟨1, rfl, by omega, by simp [h1, h2]⟩
theorem or_ch {p q : Prop} {c d : Nat} (hc : Ch p c) (hd : Ch q d) : ∃ r : Nat, Go.bits .or .u64 (c : Int) (d : Int) = (r : Int) ∧ Ch (p ∨ q) r := by
  rcases hc.case with ⟨rfl, h1⟩ | ⟨rfl, h1⟩ <;> rcases hd.case with ⟨rfl, h2⟩ | ⟨rfl, h2⟩
  · exact ⟨0, rfl, by omega, by simp [h1, h2]⟩
  · exact ⟨1, rfl, by omega, by simp [h2]⟩
  · exact ⟨1, rfl, by omega, by simp [h1]⟩
  · exact ⟨1, rfl, by omega, by simp [h1, h2]⟩
theorem not_ch {p : Prop} {c : Nat} (hc : Ch p c) : ∃ r : Nat, Go.bits .xor .u64 1 (c : Int) = (r : Int) ∧ Ch (¬ p) r := by
  rcases hc.case with ⟨rfl, h1⟩ | ⟨rfl, h1⟩
  · exact ⟨1, rfl, by omega, by simp [h1]⟩
  · exact ⟨0, rfl, by omega, by simp [h1]⟩

set_option maxHeartbeats 400000 in
theorem not_any {p : Prop} (c : Nat) (hc : Ch p c) (w : World) :
    Calls Try.prog 71 #[.int .u64 c] w fun e w' => ∃ r : Nat, e = .returned (.int .u64 (r : Int)) ∧ Ch (¬ p) r ∧ w = w' := by
  obtain ⟨r, hr, hR⟩ := not_ch hc
  go_enter Try.func71, Try.ntmps71
  go_wp2
  go_ret
  exact ⟨r, rfl, hR, rfl⟩

/-- The mask of a choice. -/
structure Mask (p : Prop) (m : Nat) : Prop where
  yes : p → m = 18446744073709551615
  no : ¬ p → m = 0
theorem mask_ch {p : Prop} {c : Nat} (hc : Ch p c) : ∃ m : Nat, -(c : Int) % 18446744073709551616 = (m : Int) ∧ Mask p m := by
  rcases hc.case with ⟨rfl, h1⟩ | ⟨rfl, h1⟩
  · exact ⟨0, by decide, fun h => absurd h h1, fun _ => rfl⟩
  · exact ⟨18446744073709551615, by decide, fun _ => rfl, fun h => absurd h1 h⟩

set_option maxHeartbeats 400000 in
theorem ctMask_any {p : Prop} (c : Nat) (hc : Ch p c) (w : World) :
    Calls Try.prog 89 #[.int .u64 c] w fun e w' => ∃ m : Nat, e = .returned (.int .u64 (m : Int)) ∧ Mask p m ∧ w = w' := by
  obtain ⟨m, hm, hM⟩ := mask_ch hc
  have Hm := Lib.hid hm
  clear hm hc
  go_enter Try.func89, Try.ntmps89
  go_wp2
  go_ret
  exact ⟨m, ret_int Hm.out, hM, rfl⟩

/-- x ^ (mask & (x ^ y)). -/
theorem pick_mask {p : Prop} {m : Nat} (hm : Mask p m) (x y : Nat) (hx : x < BB) (hy : y < BB) :
    ∃ z : Nat, Go.bits .xor .u64 (x : Int) (Go.bits .and .u64 (m : Int) (Go.bits .xor .u64 (x : Int) (y : Int))) = (z : Int) ∧ z < BB ∧ (p → z = y) ∧ (¬ p → z = x) := by
  have hbx : ∀ a b : Nat, a < BB → b < BB → Go.bits .xor .u64 (a : Int) (b : Int) = ((a ^^^ b : Nat) : Int) := by
    intro a b ha hb
    unfold BB at ha hb
    have hxx : a ^^^ b < 2 ^ 64 := Nat.xor_lt_two_pow (by omega) (by omega)
    have h1 : (BitVec.ofInt 64 (a : Int)).toNat = a := by
      rw [BitVec.ofInt_natCast, BitVec.toNat_ofNat]; exact Nat.mod_eq_of_lt (by omega)
    have h2 : (BitVec.ofInt 64 (b : Int)).toNat = b := by
      rw [BitVec.ofInt_natCast, BitVec.toNat_ofNat]; exact Nat.mod_eq_of_lt (by omega)
    show IntKind.u64.wrap ((BitVec.ofInt 64 (a : Int) ^^^ BitVec.ofInt 64 (b : Int)).toNat : Int) = _
    rw [BitVec.toNat_xor, h1, h2, IntKind.wrap_u64]
    omega
  have hlt : x ^^^ y < BB := by rw [BB_eq] at *; exact Nat.xor_lt_two_pow hx hy
  rw [hbx x y hx hy]
  by_cases hp : p
  · have := hm.yes hp; subst this
    rw [show ((18446744073709551615 : Nat) : Int) = ((18446744073709551615 : Nat) : Int) from rfl, bits_and_u64_nat _ _ (by omega) (by unfold BB at hlt; exact hlt)]
    have e : 18446744073709551615 &&& (x ^^^ y) = x ^^^ y := by
      rw [Nat.and_comm]
      have := Nat.and_two_pow_sub_one_eq_mod (x ^^^ y) 64
      rw [show (2 : Nat) ^ 64 - 1 = 18446744073709551615 from rfl] at this
      rw [this]; exact Nat.mod_eq_of_lt (by rw [← BB_eq]; exact hlt)
    rw [e, hbx x _ hx hlt]
    refine ⟨_, rfl, ?_, fun _ => ?_, fun h => absurd hp h⟩
    · rw [BB_eq] at *; exact Nat.xor_lt_two_pow hx hlt
    · rw [← Nat.xor_assoc, Nat.xor_self, Nat.zero_xor]
  · have := hm.no hp; subst this
    rw [bits_and_u64_nat _ _ (by omega) (by unfold BB at hlt; exact hlt), Nat.zero_and, hbx x 0 hx BB_pos, Nat.xor_zero]
    exact ⟨x, rfl, hx, fun h => absurd h hp, fun _ => rfl⟩

theorem subr_eq {x y s d s' d' : Nat} (hx : x < BB) (hy : y < BB) (h1 : SubR x y 0 s d) (h2 : SubR y x 0 s' d') : (d = 0 ∧ d' = 0) ↔ x = y := by
  have a := h1.eq; have b := h2.eq; have c := h1.lt; have e := h2.lt; have f := h1.le; have g := h2.le
  have d01 : d = 0 ∨ d = 1 := by omega
  have e01 : d' = 0 ∨ d' = 1 := by omega
  rcases d01 with rfl | rfl <;> rcases e01 with rfl | rfl <;> omega

set_option maxHeartbeats 1000000 in
theorem ctEq_any (x y : Nat) (hx : x < BB) (hy : y < BB) (w : World) :
    Calls Try.prog 76 #[.int .u64 x, .int .u64 y] w fun e w' => ∃ c : Nat, e = .returned (.int .u64 (c : Int)) ∧ Ch (x = y) c ∧ w = w' := by
  go_enter Try.func76, Try.ntmps76
  go_wp2_with fail
  refine (sub_any_z x y hx hy _).mono ?_
  rintro e w' ⟨s, d, rfl, hR, rfl⟩
  go_wp2_with fail
  refine (sub_any_z y x hy hx _).mono ?_
  rintro e w' ⟨s', d', rfl, hR', rfl⟩
  have hd : Ch (d ≠ 0) d := ⟨hR.le, by have := hR.le; omega⟩
  have hd' : Ch (d' ≠ 0) d' := ⟨hR'.le, by have := hR'.le; omega⟩
  obtain ⟨r, hr, hor⟩ := or_ch hd hd'
  go_wp2_with fail
  refine (not_any r hor _).mono ?_
  rintro e w' ⟨c, rfl, hc, rfl⟩
  go_wp2
  go_ret
  exact ⟨c, rfl, hc.congr (by rw [← subr_eq hx hy hR hR']; omega), rfl⟩

theorem ctEq_z (x : Nat) (hx : x < BB) (w : World) :
    Calls Try.prog 76 #[.int .u64 x, .int .u64 0] w fun e w' => ∃ c : Nat, e = .returned (.int .u64 (c : Int)) ∧ Ch (x = 0) c ∧ w = w' := ctEq_any x 0 hx BB_pos w
theorem ctEq_1 (x : Nat) (hx : x < BB) (w : World) :
    Calls Try.prog 76 #[.int .u64 x, .int .u64 1] w fun e w' => ∃ c : Nat, e = .returned (.int .u64 (c : Int)) ∧ Ch (x = 1) c ∧ w = w' := ctEq_any x 1 hx (by unfold BB; omega) w

end Go.Proofs.Ytnfjmngchapdnaa
