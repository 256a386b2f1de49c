/- math/bits Add, Sub, Mul and bigmod's small functions on choices: what they return. -/
import Derived.Test.YtnfjmngchapdnaaProg
import Derived.WalkKit
import Derived.WalkLawsBesides
import Derived.Laws.Externs
import Derived.Lib.Mul64
import Derived.Laws.Bits64b
import Derived.Lib.Hide
import Derived.Test.YtnfjmngchapdnaaMath
namespace Go.Proofs.Ytnfjmngchapdnaa
open Go.RowKit

def sub64Entry : Array Value → Sem Value := fun args => do
  let (x, y, b) ← Extern.MathBitsCarry.three "Sub64" args
  pure (Extern.MathBitsCarry.pair ((x + Extern.MathBitsCarry.m64 - y - b) % Extern.MathBitsCarry.m64) (if x < y + b then 1 else 0))

theorem run_sub64 {P : Program} (x y b : Nat) (hb : b ≤ 1) (w : World) :
    (sub64Entry #[.int .u64 x, .int .u64 y, .int .u64 b]).run P w =
      .ok (.tuple #[.int .u64 (((x + 18446744073709551616 - y - b) % 18446744073709551616 : Nat) : Int), .int .u64 ((if x < y + b then 1 else 0 : Nat) : Int)]) w := by
  have : b = 0 ∨ b = 1 := by omega
  rcases this with rfl | rfl <;> rfl

theorem call_Add64 (x y c : Nat) (hc : c ≤ 1) (w : World) :
    (callFunc 93 #[.int .u64 x, .int .u64 y, .int .u64 c]).run Try.prog w =
      .ok (.value (.tuple #[.int .u64 (((x + y + c) % 18446744073709551616 : Nat) : Int), .int .u64 (((x + y + c) / 18446744073709551616 : Nat) : Int)])) w := by
  rw [run_callFunc_extern Try.func93 (by kernel_rfl) (by kernel_rfl) (by kernel_rfl) (e := add64Entry) (by kernel_rfl), run_add64 x y c (by omega) (by omega) (by omega) (by omega)]
  simp only [Result.andThen]
  congr 5 <;> omega

theorem call_Sub64 (x y b : Nat) (hb : b ≤ 1) (w : World) :
    (callFunc 88 #[.int .u64 x, .int .u64 y, .int .u64 b]).run Try.prog w =
      .ok (.value (.tuple #[.int .u64 (((x + 18446744073709551616 - y - b) % 18446744073709551616 : Nat) : Int), .int .u64 ((if x < y + b then 1 else 0 : Nat) : Int)])) w := by
  rw [run_callFunc_extern Try.func88 (by kernel_rfl) (by kernel_rfl) (by kernel_rfl) (e := sub64Entry) (by kernel_rfl), run_sub64 x y b hb]
  rfl

set_option maxHeartbeats 400000 in
theorem bits_Add (x y c : Nat) (hc : c ≤ 1) (w : World) :
    Calls Try.prog 90 #[.int .u64 x, .int .u64 y, .int .u64 c] w fun e w' => e = .returned (.tuple #[.int .u64 (((x + y + c) % 18446744073709551616 : Nat) : Int), .int .u64 (((x + y + c) / 18446744073709551616 : Nat) : Int)]) ∧ w = w' := by
  have H := fun w => call_Add64 x y c hc w
  clear hc
  generalize (x + y + c) % 18446744073709551616 = s at *
  generalize (x + y + c) / 18446744073709551616 = d at *
  go_enter Try.func90, Try.ntmps90
  go_wp2
  go_ret2
  exact ⟨rfl, rfl⟩

theorem bits_Add_z (x y : Nat) (w : World) :
    Calls Try.prog 90 #[.int .u64 x, .int .u64 y, .int .u64 0] w fun e w' => e = .returned (.tuple #[.int .u64 (((x + y) % 18446744073709551616 : Nat) : Int), .int .u64 (((x + y) / 18446744073709551616 : Nat) : Int)]) ∧ w = w' :=
  bits_Add x y 0 (by omega) w

theorem bits_Add_zc (x c : Nat) (hc : c ≤ 1) (w : World) :
    Calls Try.prog 90 #[.int .u64 x, .int .u64 0, .int .u64 c] w fun e w' => e = .returned (.tuple #[.int .u64 (((x + c) % 18446744073709551616 : Nat) : Int), .int .u64 (((x + c) / 18446744073709551616 : Nat) : Int)]) ∧ w = w' :=
  bits_Add x 0 c hc w

set_option maxHeartbeats 400000 in
theorem bits_Sub (x y c : Nat) (hc : c ≤ 1) (w : World) :
    Calls Try.prog 70 #[.int .u64 x, .int .u64 y, .int .u64 c] w fun e w' => e = .returned (.tuple #[.int .u64 (((x + 18446744073709551616 - y - c) % 18446744073709551616 : Nat) : Int), .int .u64 ((if x < y + c then 1 else 0 : Nat) : Int)]) ∧ w = w' := by
  have H := fun w => call_Sub64 x y c hc w
  clear hc
  generalize (x + 18446744073709551616 - y - c) % 18446744073709551616 = s at *
  generalize (if x < y + c then 1 else 0 : Nat) = d at *
  go_enter Try.func70, Try.ntmps70
  go_wp2
  go_ret2
  exact ⟨rfl, rfl⟩

theorem bits_Sub_z (x y : Nat) (w : World) :
    Calls Try.prog 70 #[.int .u64 x, .int .u64 y, .int .u64 0] w fun e w' => e = .returned (.tuple #[.int .u64 (((x + 18446744073709551616 - y) % 18446744073709551616 : Nat) : Int), .int .u64 ((if x < y then 1 else 0 : Nat) : Int)]) ∧ w = w' :=
  bits_Sub x y 0 (by omega) w

namespace Mul64
theorem maskN (a : Nat) (ha : a < 18446744073709551616) : bits .and .u64 (a : Int) 4294967295 = ((a % 4294967296 : Nat) : Int) := by
  have h := bits_and_u64_nat a 4294967295 ha (by omega)
  have e : a &&& 4294967295 = a % 4294967296 := Nat.and_two_pow_sub_one_eq_mod a 32
  rw [e] at h
  exact h
theorem divN (a : Nat) : (a : Int) / 4294967296 = ((a / 4294967296 : Nat) : Int) := by omega
theorem mulN (a b : Nat) : (a : Int) * (b : Int) = ((a * b : Nat) : Int) := (Int.natCast_mul a b).symm
theorem addN (a b : Nat) : (a : Int) + (b : Int) = ((a + b : Nat) : Int) := (Int.natCast_add a b).symm
theorem wrapN (a : Nat) (ha : a < 18446744073709551616) : IntKind.u64.wrap (a : Int) = (a : Int) := by rw [IntKind.wrap_u64]; omega
theorem wrapM (a : Nat) : IntKind.u64.wrap (a : Int) = ((a % 18446744073709551616 : Nat) : Int) := by rw [IntKind.wrap_u64]; omega
end Mul64

set_option maxHeartbeats 1000000 in
theorem bits_Mul64 (x y : Nat) (hx : x < 18446744073709551616) (hy : y < 18446744073709551616) (w : World) :
    Calls Try.prog 95 #[.int .u64 x, .int .u64 y] w fun e w' => e = .returned (.tuple #[.int .u64 ((x * y / 18446744073709551616 : Nat) : Int), .int .u64 ((x * y % 18446744073709551616 : Nat) : Int)]) ∧ w = w' := by
  obtain ⟨bd, bt, bw, hhi⟩ := Lib.mul64_hi x y hx hy
  have ba := Lib.half_mul_le (a := x / 4294967296) (b := y / 4294967296) (by omega) (by omega)
  have bb := Lib.half_mul_le (a := x / 4294967296) (b := y % 4294967296) (by omega) (by omega)
  have bc := Lib.half_mul_le (a := x % 4294967296) (b := y / 4294967296) (by omega) (by omega)
  have ba' : x / 4294967296 * (y / 4294967296) < 18446744073709551616 := by omega
  have bb' : x / 4294967296 * (y % 4294967296) < 18446744073709551616 := by omega
  have bc' : x % 4294967296 * (y / 4294967296) < 18446744073709551616 := by omega
  have bh1 : x / 4294967296 * (y / 4294967296) + (x / 4294967296 * (y % 4294967296) + x % 4294967296 * (y % 4294967296) / 4294967296) / 4294967296 < 18446744073709551616 := by omega
  have bh : x / 4294967296 * (y / 4294967296) + (x / 4294967296 * (y % 4294967296) + x % 4294967296 * (y % 4294967296) / 4294967296) / 4294967296 + ((x / 4294967296 * (y % 4294967296) + x % 4294967296 * (y % 4294967296) / 4294967296) % 4294967296 + x % 4294967296 * (y / 4294967296)) / 4294967296 < 18446744073709551616 := by omega
  go_enter Try.func95, Try.ntmps95
  go_wp2
  simp only [Mul64.maskN x hx, Mul64.maskN y hy, Mul64.divN, Mul64.mulN, Mul64.addN, Mul64.wrapN _ bd, Mul64.wrapN _ bb', Mul64.wrapN _ bt, Mul64.maskN _ bt, Mul64.wrapN _ bc', Mul64.wrapN _ bw, Mul64.wrapN _ ba', Mul64.wrapN _ bh1, Mul64.wrapN _ bh, Mul64.wrapM (x * y)]
  rw [hhi]
  go_ret2
  exact ⟨rfl, rfl⟩

set_option maxHeartbeats 400000 in
theorem bits_Mul (x y : Nat) (hx : x < 18446744073709551616) (hy : y < 18446744073709551616) (w : World) :
    Calls Try.prog 91 #[.int .u64 x, .int .u64 y] w fun e w' => e = .returned (.tuple #[.int .u64 ((x * y / 18446744073709551616 : Nat) : Int), .int .u64 ((x * y % 18446744073709551616 : Nat) : Int)]) ∧ w = w' := by
  have H := fun w => bits_Mul64 x y hx hy w
  clear hx hy
  generalize x * y / 18446744073709551616 = s at *
  generalize x * y % 18446744073709551616 = d at *
  have H' := Lib.hid H
  clear H
  go_enter Try.func91, Try.ntmps91
  go_wp2_with (go_at_call 95; refine (H'.out _).mono ?_; rintro e w' ⟨rfl, rfl⟩)
  go_ret2
  exact ⟨rfl, rfl⟩

/-! The same, with the results under names. -/
theorem add_any (x y c : Nat) (hx : x < BB) (hy : y < BB) (hc : c ≤ 1) (w : World) :
    Calls Try.prog 90 #[.int .u64 x, .int .u64 y, .int .u64 c] w fun e w' => ∃ s d : Nat, e = .returned (.tuple #[.int .u64 (s : Int), .int .u64 (d : Int)]) ∧ AddR x y c s d ∧ w = w' :=
  (bits_Add x y c hc w).mono fun _ _ ⟨he, hw⟩ => ⟨_, _, he, AddR.mk' x y c hx hy hc, hw⟩
theorem add_any_z (x y : Nat) (hx : x < BB) (hy : y < BB) (w : World) :
    Calls Try.prog 90 #[.int .u64 x, .int .u64 y, .int .u64 0] w fun e w' => ∃ s d : Nat, e = .returned (.tuple #[.int .u64 (s : Int), .int .u64 (d : Int)]) ∧ AddR x y 0 s d ∧ w = w' := add_any x y 0 hx hy (by omega) w
theorem add_any_zc (x c : Nat) (hx : x < BB) (hc : c ≤ 1) (w : World) :
    Calls Try.prog 90 #[.int .u64 x, .int .u64 0, .int .u64 c] w fun e w' => ∃ s d : Nat, e = .returned (.tuple #[.int .u64 (s : Int), .int .u64 (d : Int)]) ∧ AddR x 0 c s d ∧ w = w' := add_any x 0 c hx BB_pos hc w
theorem sub_any (x y c : Nat) (hx : x < BB) (hy : y < BB) (hc : c ≤ 1) (w : World) :
    Calls Try.prog 70 #[.int .u64 x, .int .u64 y, .int .u64 c] w fun e w' => ∃ s d : Nat, e = .returned (.tuple #[.int .u64 (s : Int), .int .u64 (d : Int)]) ∧ SubR x y c s d ∧ w = w' :=
  (bits_Sub x y c hc w).mono fun _ _ ⟨he, hw⟩ => ⟨_, _, he, SubR.mk' x y c hx hy hc, hw⟩
theorem sub_any_z (x y : Nat) (hx : x < BB) (hy : y < BB) (w : World) :
    Calls Try.prog 70 #[.int .u64 x, .int .u64 y, .int .u64 0] w fun e w' => ∃ s d : Nat, e = .returned (.tuple #[.int .u64 (s : Int), .int .u64 (d : Int)]) ∧ SubR x y 0 s d ∧ w = w' := sub_any x y 0 hx hy (by omega) w
theorem mul_any (x y : Nat) (hx : x < BB) (hy : y < BB) (w : World) :
    Calls Try.prog 91 #[.int .u64 x, .int .u64 y] w fun e w' => ∃ h l : Nat, e = .returned (.tuple #[.int .u64 (h : Int), .int .u64 (l : Int)]) ∧ MulR x y h l ∧ w = w' :=
  (bits_Mul x y hx hy w).mono fun _ _ ⟨he, hw⟩ => ⟨_, _, he, MulR.mk' x y hx hy, hw⟩

end Go.Proofs.Ytnfjmngchapdnaa
