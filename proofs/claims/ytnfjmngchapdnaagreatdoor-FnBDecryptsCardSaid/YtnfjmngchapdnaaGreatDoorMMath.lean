import Derived.Test.YtnfjmngchapdnaaGreatDoorProg
import Derived.WalkKit
import Derived.WalkLawsBesides
import Derived.Laws.Externs
import Derived.Lib.Mul64
import Derived.Laws.Bits64b
import Derived.Lib.Hide
/- Numbers of several words: values of lists of words. Plain Lean. -/
namespace Go.Proofs.YtnfjmngchapdnaaGreatDoor

/-- 2^64, behind a name. -/
def BB : Nat := 18446744073709551616
theorem BB_pos : 0 < BB := by unfold BB; omega
theorem BB_eq : BB = 2 ^ 64 := by unfold BB; rfl

def val : List Nat → Nat
  | [] => 0
  | x :: l => x + BB * val l

def Lt (L : List Nat) : Prop := ∀ x, x ∈ L → x < BB
theorem Lt.nil : Lt [] := fun _ h => by cases h
theorem Lt.cons {x : Nat} {L : List Nat} (hx : x < BB) (h : Lt L) : Lt (x :: L) := fun y hy => by
  rcases List.mem_cons.1 hy with rfl | hy
  · exact hx
  · exact h y hy
theorem Lt.head {x : Nat} {L : List Nat} (h : Lt (x :: L)) : x < BB := h x (List.mem_cons_self ..)
theorem Lt.tail {x : Nat} {L : List Nat} (h : Lt (x :: L)) : Lt L := fun y hy => h y (List.mem_cons_of_mem _ hy)
theorem Lt.get {L : List Nat} (h : Lt L) (i : Nat) (hi : i < L.length) : L[i] < BB := h _ (List.getElem_mem hi)
theorem Lt.set {L : List Nat} (h : Lt L) (i y : Nat) (hy : y < BB) : Lt (L.set i y) := fun z hz => by
  rcases List.mem_or_eq_of_mem_set hz with hz | rfl
  · exact h z hz
  · exact hy
theorem Lt.append {L M : List Nat} (h : Lt L) (k : Lt M) : Lt (L ++ M) := fun z hz => by
  rcases List.mem_append.1 hz with hz | hz
  · exact h z hz
  · exact k z hz
theorem Lt.take {L : List Nat} (h : Lt L) (n : Nat) : Lt (L.take n) := fun z hz => h z (List.mem_of_mem_take hz)
theorem Lt.drop {L : List Nat} (h : Lt L) (n : Nat) : Lt (L.drop n) := fun z hz => h z (List.mem_of_mem_drop hz)
theorem Lt.replicate (n : Nat) : Lt (List.replicate n 0) := fun z hz => by rw [(List.mem_replicate.1 hz).2]; exact BB_pos
theorem Lt.left {L M : List Nat} (h : Lt (L ++ M)) : Lt L := fun z hz => h z (List.mem_append_left _ hz)
theorem Lt.right {L M : List Nat} (h : Lt (L ++ M)) : Lt M := fun z hz => h z (List.mem_append_right _ hz)

theorem val_append : ∀ (L M : List Nat), val (L ++ M) = val L + BB ^ L.length * val M
  | [], M => by simp [val]
  | x :: L, M => by
    simp only [List.cons_append, val, val_append L M, List.length_cons, Nat.pow_succ, Nat.mul_add]
    rw [← Nat.mul_assoc, Nat.mul_comm BB (BB ^ L.length)]
    omega

theorem val_lt : ∀ {L : List Nat}, Lt L → val L < BB ^ L.length
  | [], _ => by simp [val]
  | x :: L, h => by
    have h1 := val_lt h.tail
    have h2 := h.head
    simp only [val, List.length_cons, Nat.pow_succ]
    have h3 : BB * (val L + 1) ≤ BB * BB ^ L.length := Nat.mul_le_mul_left _ h1
    rw [Nat.mul_add, Nat.mul_one] at h3
    rw [Nat.mul_comm (BB ^ L.length) BB]
    omega

theorem val_set : ∀ (L : List Nat) (i y : Nat) (hi : i < L.length), val (L.set i y) + BB ^ i * L[i] = val L + BB ^ i * y
  | [], i, y, hi => by simp at hi
  | x :: L, 0, y, hi => by simp [val]; omega
  | x :: L, i + 1, y, hi => by
    have h := val_set L i y (by simpa using hi)
    simp only [List.set_cons_succ, val, List.getElem_cons_succ, Nat.pow_succ]
    have e : ∀ z, BB ^ i * BB * z = BB * (BB ^ i * z) := fun z => by rw [Nat.mul_comm (BB ^ i) BB, Nat.mul_assoc]
    rw [e, e]
    have h' := congrArg (BB * ·) h
    simp only [Nat.mul_add] at h'
    omega

theorem val_take_succ (L : List Nat) (i : Nat) (hi : i < L.length) : val (L.take (i + 1)) = val (L.take i) + BB ^ i * L[i] := by
  rw [List.take_succ_eq_append_getElem hi, val_append]
  simp [val, List.length_take, Nat.min_eq_left (Nat.le_of_lt hi)]

theorem val_replicate (n : Nat) : val (List.replicate n 0) = 0 := by
  induction n with
  | zero => rfl
  | succ n ih => simp [List.replicate_succ, val, ih]

theorem val_inj : ∀ {L M : List Nat}, Lt L → Lt M → L.length = M.length → val L = val M → L = M
  | [], [], _, _, _, _ => rfl
  | [], _ :: _, _, _, h, _ => by simp at h
  | _ :: _, [], _, _, h, _ => by simp at h
  | x :: L, y :: M, hL, hM, hl, hv => by
    have h1 := hL.head
    have h2 := hM.head
    simp only [val] at hv
    have hx : x = y := by
      have := congrArg (· % BB) hv
      simp only [Nat.add_mul_mod_self_left] at this
      rw [Nat.mod_eq_of_lt h1, Nat.mod_eq_of_lt h2] at this
      exact this
    subst hx
    have hv' : BB * val L = BB * val M := by omega
    rw [val_inj hL.tail hM.tail (by simpa using hl) (Nat.eq_of_mul_eq_mul_left BB_pos hv')]

/-- x + y + c as a word and a carry. -/
structure AddR (x y c s d : Nat) : Prop where
  eq : s + d * BB = x + y + c
  lt : s < BB
  le : d ≤ 1
/-- x - y - c as a word and a borrow. -/
structure SubR (x y c s d : Nat) : Prop where
  eq : s + y + c = x + d * BB
  lt : s < BB
  le : d ≤ 1
/-- x * y as two words. -/
structure MulR (x y h l : Nat) : Prop where
  eq : l + h * BB = x * y
  lt : l < BB
  lt' : h < BB

theorem AddR.mk' (x y c : Nat) (hx : x < BB) (hy : y < BB) (hc : c ≤ 1) : AddR x y c ((x + y + c) % 18446744073709551616) ((x + y + c) / 18446744073709551616) := by
  unfold BB at hx hy
  refine ⟨?_, ?_, ?_⟩ <;> (try unfold BB) <;> omega
theorem SubR.mk' (x y c : Nat) (hx : x < BB) (hy : y < BB) (hc : c ≤ 1) : SubR x y c ((x + 18446744073709551616 - y - c) % 18446744073709551616) (if x < y + c then 1 else 0) := by
  unfold BB at hx hy
  refine ⟨?_, ?_, ?_⟩ <;> (try unfold BB) <;> (try split) <;> omega
theorem MulR.mk' (x y : Nat) (hx : x < BB) (hy : y < BB) : MulR x y (x * y / 18446744073709551616) (x * y % 18446744073709551616) := by
  have h : x * y < BB * BB := Nat.mul_lt_mul'' hx hy
  refine ⟨?_, ?_, ?_⟩
  · show x * y % BB + x * y / BB * BB = x * y
    rw [Nat.mul_comm (x * y / BB) BB]
    exact Nat.mod_add_div (x * y) BB
  · exact Nat.mod_lt _ BB_pos
  · exact Nat.div_lt_of_lt_mul h

/-- One round of an addition. -/
theorem add_round {L M : List Nat} {v u d s d' k : Nat} (hk : k < L.length) (hm : k < M.length) (h : val L + d * BB ^ k = v + u) (hr : AddR L[k] M[k] d s d') :
    val (L.set k s) + d' * BB ^ (k + 1) = v + (u + BB ^ k * M[k]) := by
  have h1 := val_set L k s hk
  have h2 := congrArg (BB ^ k * ·) hr.eq
  simp only [Nat.mul_add] at h2
  have e : d' * BB ^ (k + 1) = BB ^ k * (d' * BB) := by
    rw [Nat.pow_succ, ← Nat.mul_assoc, Nat.mul_comm d', Nat.mul_assoc]
  rw [e]
  have e2 : d * BB ^ k = BB ^ k * d := Nat.mul_comm _ _
  rw [e2] at h
  omega
/-- One round of a subtraction. -/
theorem sub_round {L M : List Nat} {v u d s d' k : Nat} (hk : k < L.length) (hm : k < M.length) (h : val L + u = v + d * BB ^ k) (hr : SubR L[k] M[k] d s d') :
    val (L.set k s) + (u + BB ^ k * M[k]) = v + d' * BB ^ (k + 1) := by
  have h1 := val_set L k s hk
  have h2 := congrArg (BB ^ k * ·) hr.eq
  simp only [Nat.mul_add] at h2
  have e : d' * BB ^ (k + 1) = BB ^ k * (d' * BB) := by
    rw [Nat.pow_succ, ← Nat.mul_assoc, Nat.mul_comm d', Nat.mul_assoc]
  rw [e]
  have e2 : d * BB ^ k = BB ^ k * d := Nat.mul_comm _ _
  rw [e2] at h
  omega

/-- How many bits a number has. -/
def blen (n : Nat) : Nat := if n = 0 then 0 else n.log2 + 1
theorem blen_zero : blen 0 = 0 := rfl
theorem lt_blen (n : Nat) : n < 2 ^ blen n := by
  unfold blen
  split
  · rename_i h; subst h; simp
  · exact Nat.lt_log2_self
theorem blen_le {n : Nat} (h : n ≠ 0) : 2 ^ (blen n - 1) ≤ n := by
  unfold blen
  rw [if_neg h]
  exact Nat.log2_self_le h
theorem blen_pos {n : Nat} (h : n ≠ 0) : 0 < blen n := by unfold blen; rw [if_neg h]; omega
theorem blen_le_of_lt {n k : Nat} (h : n < 2 ^ k) : blen n ≤ k := by
  by_cases hn : n = 0
  · subst hn; simp [blen]
  · have h1 := blen_le hn
    have h2 : 2 ^ (blen n - 1) < 2 ^ k := Nat.lt_of_le_of_lt h1 h
    have h3 := (Nat.pow_lt_pow_iff_right (by omega)).1 h2
    omega
theorem lt_of_blen_le {n k : Nat} (h : blen n ≤ k) : n < 2 ^ k := Nat.lt_of_lt_of_le (lt_blen n) (Nat.pow_le_pow_right (by omega) h)
theorem blen_unique {n r : Nat} (h1 : n < 2 ^ r) (h2 : r = 0 ∨ 2 ^ (r - 1) ≤ n) : blen n = r := by
  have h3 := blen_le_of_lt h1
  rcases h2 with rfl | h2
  · omega
  · by_cases hr : r = 0
    · omega
    · have h4 : 2 ^ (r - 1) < 2 ^ blen n := Nat.lt_of_le_of_lt h2 (lt_blen n)
      have h5 := (Nat.pow_lt_pow_iff_right (by omega)).1 h4
      omega
theorem blen_half {n : Nat} (h : n ≠ 0) : blen (n / 2) + 1 = blen n := by
  have h1 := lt_blen n
  have h2 := blen_le h
  have h3 := blen_pos h
  have e : 2 ^ blen n = 2 * 2 ^ (blen n - 1) := by
    rw [← Nat.pow_succ']; congr 1; omega
  have : blen (n / 2) = blen n - 1 := by
    refine blen_unique (by omega) ?_
    by_cases h4 : blen n = 1
    · left; omega
    · right
      have e2 : 2 ^ (blen n - 1) = 2 * 2 ^ (blen n - 1 - 1) := by
        rw [← Nat.pow_succ']; congr 1; omega
      omega
  omega
theorem blen_concat {a x m : Nat} (ha : a < 2 ^ m) (hx : x ≠ 0) : blen (a + 2 ^ m * x) = m + blen x := by
  have h1 := lt_blen x
  have h2 := blen_le hx
  have h3 := blen_pos hx
  refine blen_unique ?_ (.inr ?_)
  · rw [Nat.pow_add]
    have : 2 ^ m * (x + 1) ≤ 2 ^ m * 2 ^ blen x := Nat.mul_le_mul_left _ h1
    rw [Nat.mul_add] at this
    omega
  · rw [show m + blen x - 1 = m + (blen x - 1) by omega, Nat.pow_add]
    have : 2 ^ m * 2 ^ (blen x - 1) ≤ 2 ^ m * x := Nat.mul_le_mul_left _ h2
    omega
theorem BB_pow (k : Nat) : BB ^ k = 2 ^ (64 * k) := by rw [BB_eq, ← Nat.pow_mul]
theorem blen_BB {n : Nat} (h : n < BB) : blen n ≤ 64 := blen_le_of_lt (by rw [← BB_eq]; exact h)

end Go.Proofs.YtnfjmngchapdnaaGreatDoor

/- math/bits Add, Sub, Mul and bigmod's small functions on choices: what they return. -/
namespace Go.Proofs.YtnfjmngchapdnaaGreatDoor
open Go.RowKit

def sub64Entry : Array Value → Sem Value := fun args => do
  let (x, y, b) ← Extern.MathBitsCarry.three "Sub64" args
  pure (Extern.MathBitsCarry.pair ((x + Extern.MathBitsCarry.m64 - y - b) % Extern.MathBitsCarry.m64) (if x < y + b then 1 else 0))

theorem run_sub64 {P : Program} (x y b : Nat) (hb : b ≤ 1) (w : World) :
    (sub64Entry #[.int .u64 x, .int .u64 y, .int .u64 b]).run P w =
      .ok (.tuple #[.int .u64 (((x + 18446744073709551616 - y - b) % 18446744073709551616 : Nat) : Int), .int .u64 ((if x < y + b then 1 else 0 : Nat) : Int)]) w := by
  have : b = 0 ∨ b = 1 := by omega
  rcases this with rfl | rfl <;> rfl

theorem call_Add64 (x y c : Nat) (hc : c ≤ 1) (w : World) :
    (callFunc 115 #[.int .u64 x, .int .u64 y, .int .u64 c]).run Tryz.prog w =
      .ok (.value (.tuple #[.int .u64 (((x + y + c) % 18446744073709551616 : Nat) : Int), .int .u64 (((x + y + c) / 18446744073709551616 : Nat) : Int)])) w := by
  rw [run_callFunc_extern Tryz.func115 (by kernel_rfl) (by kernel_rfl) (by kernel_rfl) (e := add64Entry) (by kernel_rfl), run_add64 x y c (by omega) (by omega) (by omega) (by omega)]
  simp only [Result.andThen]
  congr 5 <;> omega

theorem call_Sub64 (x y b : Nat) (hb : b ≤ 1) (w : World) :
    (callFunc 109 #[.int .u64 x, .int .u64 y, .int .u64 b]).run Tryz.prog w =
      .ok (.value (.tuple #[.int .u64 (((x + 18446744073709551616 - y - b) % 18446744073709551616 : Nat) : Int), .int .u64 ((if x < y + b then 1 else 0 : Nat) : Int)])) w := by
  rw [run_callFunc_extern Tryz.func109 (by kernel_rfl) (by kernel_rfl) (by kernel_rfl) (e := sub64Entry) (by kernel_rfl), run_sub64 x y b hb]
  rfl

set_option maxHeartbeats 400000 in
theorem bits_Add (x y c : Nat) (hc : c ≤ 1) (w : World) :
    Calls Tryz.prog 111 #[.int .u64 x, .int .u64 y, .int .u64 c] w fun e w' => e = .returned (.tuple #[.int .u64 (((x + y + c) % 18446744073709551616 : Nat) : Int), .int .u64 (((x + y + c) / 18446744073709551616 : Nat) : Int)]) ∧ w = w' := by
  have H := fun w => call_Add64 x y c hc w
  clear hc
  generalize (x + y + c) % 18446744073709551616 = s at *
  generalize (x + y + c) / 18446744073709551616 = d at *
  go_enter Tryz.func111, Tryz.ntmps111
  go_wp2
  go_ret2
  exact ⟨rfl, rfl⟩

theorem bits_Add_z (x y : Nat) (w : World) :
    Calls Tryz.prog 111 #[.int .u64 x, .int .u64 y, .int .u64 0] w fun e w' => e = .returned (.tuple #[.int .u64 (((x + y) % 18446744073709551616 : Nat) : Int), .int .u64 (((x + y) / 18446744073709551616 : Nat) : Int)]) ∧ w = w' :=
  bits_Add x y 0 (by omega) w

theorem bits_Add_zc (x c : Nat) (hc : c ≤ 1) (w : World) :
    Calls Tryz.prog 111 #[.int .u64 x, .int .u64 0, .int .u64 c] w fun e w' => e = .returned (.tuple #[.int .u64 (((x + c) % 18446744073709551616 : Nat) : Int), .int .u64 (((x + c) / 18446744073709551616 : Nat) : Int)]) ∧ w = w' :=
  bits_Add x 0 c hc w

set_option maxHeartbeats 400000 in
theorem bits_Sub (x y c : Nat) (hc : c ≤ 1) (w : World) :
    Calls Tryz.prog 88 #[.int .u64 x, .int .u64 y, .int .u64 c] w fun e w' => e = .returned (.tuple #[.int .u64 (((x + 18446744073709551616 - y - c) % 18446744073709551616 : Nat) : Int), .int .u64 ((if x < y + c then 1 else 0 : Nat) : Int)]) ∧ w = w' := by
  have H := fun w => call_Sub64 x y c hc w
  clear hc
  generalize (x + 18446744073709551616 - y - c) % 18446744073709551616 = s at *
  generalize (if x < y + c then 1 else 0 : Nat) = d at *
  go_enter Tryz.func88, Tryz.ntmps88
  go_wp2
  go_ret2
  exact ⟨rfl, rfl⟩

theorem bits_Sub_z (x y : Nat) (w : World) :
    Calls Tryz.prog 88 #[.int .u64 x, .int .u64 y, .int .u64 0] w fun e w' => e = .returned (.tuple #[.int .u64 (((x + 18446744073709551616 - y) % 18446744073709551616 : Nat) : Int), .int .u64 ((if x < y then 1 else 0 : Nat) : Int)]) ∧ w = w' :=
  bits_Sub x y 0 (by omega) w

namespace Mul64
theorem maskN (a : Nat) (ha : a < 18446744073709551616) : bits .and .u64 (a : Int) 4294967295 = ((a % 4294967296 : Nat) : Int) := by
  have h := bits_and_u64_nat a 4294967295 ha (by omega)
  have e : a &&& 4294967295 = a % 4294967296 := Nat.and_two_pow_sub_one_eq_mod a 32
  rw [e] at h
  exact h
theorem divN (a : Nat) : (a : Int) / 4294967296 = ((a / 4294967296 : Nat) : Int) := by omega
theorem mulN (a b : Nat) : (a : Int) * (b : Int) = ((a * b : Nat) : Int) := (Int.natCast_mul a b).symm
theorem addN (a b : Nat) : (a : Int) + (b : Int) = ((a + b : Nat) : Int) := (Int.natCast_add a b).symm
theorem wrapN (a : Nat) (ha : a < 18446744073709551616) : IntKind.u64.wrap (a : Int) = (a : Int) := by rw [IntKind.wrap_u64]; omega
theorem wrapM (a : Nat) : IntKind.u64.wrap (a : Int) = ((a % 18446744073709551616 : Nat) : Int) := by rw [IntKind.wrap_u64]; omega
end Mul64

set_option maxHeartbeats 1000000 in
theorem bits_Mul64 (x y : Nat) (hx : x < 18446744073709551616) (hy : y < 18446744073709551616) (w : World) :
    Calls Tryz.prog 117 #[.int .u64 x, .int .u64 y] w fun e w' => e = .returned (.tuple #[.int .u64 ((x * y / 18446744073709551616 : Nat) : Int), .int .u64 ((x * y % 18446744073709551616 : Nat) : Int)]) ∧ w = w' := by
  obtain ⟨bd, bt, bw, hhi⟩ := Lib.mul64_hi x y hx hy
  have ba := Lib.half_mul_le (a := x / 4294967296) (b := y / 4294967296) (by omega) (by omega)
  have bb := Lib.half_mul_le (a := x / 4294967296) (b := y % 4294967296) (by omega) (by omega)
  have bc := Lib.half_mul_le (a := x % 4294967296) (b := y / 4294967296) (by omega) (by omega)
  have ba' : x / 4294967296 * (y / 4294967296) < 18446744073709551616 := by omega
  have bb' : x / 4294967296 * (y % 4294967296) < 18446744073709551616 := by omega
  have bc' : x % 4294967296 * (y / 4294967296) < 18446744073709551616 := by omega
  have bh1 : x / 4294967296 * (y / 4294967296) + (x / 4294967296 * (y % 4294967296) + x % 4294967296 * (y % 4294967296) / 4294967296) / 4294967296 < 18446744073709551616 := by omega
  have bh : x / 4294967296 * (y / 4294967296) + (x / 4294967296 * (y % 4294967296) + x % 4294967296 * (y % 4294967296) / 4294967296) / 4294967296 + ((x / 4294967296 * (y % 4294967296) + x % 4294967296 * (y % 4294967296) / 4294967296) % 4294967296 + x % 4294967296 * (y / 4294967296)) / 4294967296 < 18446744073709551616 := by omega
  go_enter Tryz.func117, Tryz.ntmps117
  go_wp2
  simp only [Mul64.maskN x hx, Mul64.maskN y hy, Mul64.divN, Mul64.mulN, Mul64.addN, Mul64.wrapN _ bd, Mul64.wrapN _ bb', Mul64.wrapN _ bt, Mul64.maskN _ bt, Mul64.wrapN _ bc', Mul64.wrapN _ bw, Mul64.wrapN _ ba', Mul64.wrapN _ bh1, Mul64.wrapN _ bh, Mul64.wrapM (x * y)]
  rw [hhi]
  go_ret2
  exact ⟨rfl, rfl⟩

set_option maxHeartbeats 400000 in
theorem bits_Mul (x y : Nat) (hx : x < 18446744073709551616) (hy : y < 18446744073709551616) (w : World) :
    Calls Tryz.prog 112 #[.int .u64 x, .int .u64 y] w fun e w' => e = .returned (.tuple #[.int .u64 ((x * y / 18446744073709551616 : Nat) : Int), .int .u64 ((x * y % 18446744073709551616 : Nat) : Int)]) ∧ w = w' := by
  have H := fun w => bits_Mul64 x y hx hy w
  clear hx hy
  generalize x * y / 18446744073709551616 = s at *
  generalize x * y % 18446744073709551616 = d at *
  have H' := Lib.hid H
  clear H
  go_enter Tryz.func112, Tryz.ntmps112
  go_wp2_with (go_at_call 117; refine (H'.out _).mono ?_; rintro e w' ⟨rfl, rfl⟩)
  go_ret2
  exact ⟨rfl, rfl⟩

/-! The same, with the results under names. -/
theorem add_any (x y c : Nat) (hx : x < BB) (hy : y < BB) (hc : c ≤ 1) (w : World) :
    Calls Tryz.prog 111 #[.int .u64 x, .int .u64 y, .int .u64 c] w fun e w' => ∃ s d : Nat, e = .returned (.tuple #[.int .u64 (s : Int), .int .u64 (d : Int)]) ∧ AddR x y c s d ∧ w = w' :=
  (bits_Add x y c hc w).mono fun _ _ ⟨he, hw⟩ => ⟨_, _, he, AddR.mk' x y c hx hy hc, hw⟩
theorem add_any_z (x y : Nat) (hx : x < BB) (hy : y < BB) (w : World) :
    Calls Tryz.prog 111 #[.int .u64 x, .int .u64 y, .int .u64 0] w fun e w' => ∃ s d : Nat, e = .returned (.tuple #[.int .u64 (s : Int), .int .u64 (d : Int)]) ∧ AddR x y 0 s d ∧ w = w' := add_any x y 0 hx hy (by omega) w
theorem add_any_zc (x c : Nat) (hx : x < BB) (hc : c ≤ 1) (w : World) :
    Calls Tryz.prog 111 #[.int .u64 x, .int .u64 0, .int .u64 c] w fun e w' => ∃ s d : Nat, e = .returned (.tuple #[.int .u64 (s : Int), .int .u64 (d : Int)]) ∧ AddR x 0 c s d ∧ w = w' := add_any x 0 c hx BB_pos hc w
theorem sub_any (x y c : Nat) (hx : x < BB) (hy : y < BB) (hc : c ≤ 1) (w : World) :
    Calls Tryz.prog 88 #[.int .u64 x, .int .u64 y, .int .u64 c] w fun e w' => ∃ s d : Nat, e = .returned (.tuple #[.int .u64 (s : Int), .int .u64 (d : Int)]) ∧ SubR x y c s d ∧ w = w' :=
  (bits_Sub x y c hc w).mono fun _ _ ⟨he, hw⟩ => ⟨_, _, he, SubR.mk' x y c hx hy hc, hw⟩
theorem sub_any_z (x y : Nat) (hx : x < BB) (hy : y < BB) (w : World) :
    Calls Tryz.prog 88 #[.int .u64 x, .int .u64 y, .int .u64 0] w fun e w' => ∃ s d : Nat, e = .returned (.tuple #[.int .u64 (s : Int), .int .u64 (d : Int)]) ∧ SubR x y 0 s d ∧ w = w' := sub_any x y 0 hx hy (by omega) w
theorem mul_any (x y : Nat) (hx : x < BB) (hy : y < BB) (w : World) :
    Calls Tryz.prog 112 #[.int .u64 x, .int .u64 y] w fun e w' => ∃ h l : Nat, e = .returned (.tuple #[.int .u64 (h : Int), .int .u64 (l : Int)]) ∧ MulR x y h l ∧ w = w' :=
  (bits_Mul x y hx hy w).mono fun _ _ ⟨he, hw⟩ => ⟨_, _, he, MulR.mk' x y hx hy, hw⟩

end Go.Proofs.YtnfjmngchapdnaaGreatDoor

/- Memory words: rows of words, what a step keeps. -/
namespace Go.Proofs.YtnfjmngchapdnaaGreatDoor
open Go.RowKit

/-- Words as cells. -/
def u64s (L : List Nat) : List Value := L.map fun (x : Nat) => .int .u64 (x : Int)
/-- Block b is a row of words. -/
def Row (w : World) (b : Nat) (L : List Nat) : Prop := w.heap[b]? = some (.cells (u64s L).toArray 84 (0, 0))

theorem Row.lt {w : World} {b : Nat} {L : List Nat} (h : Row w b L) : b < w.heap.size := lt_of_block h
theorem Row.cell {w : World} {b : Nat} {L : List Nat} (h : Row w b L) (i : Nat) (hi : i < L.length) : w.cell? ⟨b, i, none⟩ = some (.int .u64 (L[i] : Int)) := by
  unfold Row at h
  simp [World.cell?, h, u64s, hi]
theorem Row.free {w : World} {b : Nat} {L : List Nat} (h : Row w b L) (i : Nat) : w.frozen? ⟨b, i, none⟩ = false := by
  unfold Row at h
  simp [World.frozen?, h]
theorem Row.drew {w : World} {b : Nat} {L : List Nat} (h : Row w b L) : Row w.drew b L := h
theorem Row.drewN {w : World} {b : Nat} {L : List Nat} (h : Row w b L) (n : Nat) : Row (w.drewN n) b L := h
theorem Row.alloc {w : World} {b : Nat} {L : List Nat} (h : Row w b L) (o : Obj) : Row (w.alloc o) b L := by
  have := h.lt
  unfold Row at *
  rw [Below.heap_alloc _ _ _ this]; exact h
theorem Row.set {w : World} {b : Nat} {L : List Nat} (h : Row w b L) (i x : Nat) : Row (w.setCell ⟨b, i, none⟩ (.int .u64 (x : Int))) b (L.set i x) := by
  have hlt := h.lt
  unfold Row at *
  have h' : w.heap[b] = .cells (u64s L).toArray 84 (0, 0) := by simpa [Array.getElem?_eq_getElem hlt] using h
  show (w.heap.modify b _)[b]? = _
  rw [Array.getElem?_eq_getElem (by simpa using hlt), Array.getElem_modify_self, h']
  simp [u64s, List.map_set]
theorem Row.other {w : World} {b : Nat} {L : List Nat} (h : Row w b L) {a : Addr} (ha : b ≠ a.block) (v : Value) : Row (w.setCell a v) b L := by
  unfold Row at *
  rw [Below.heap_setCell _ _ _ _ ha]; exact h

/-- From w to w' no block that stood at w has turned but those of S. -/
structure Keeps (S : List Nat) (w w' : World) : Prop where
  os : w'.os = w.os
  tape : w'.tape = w.tape
  output : w'.output = w.output
  size : w.heap.size ≤ w'.heap.size
  block : ∀ k, k < w.heap.size → k ∉ S → w'.heap[k]? = w.heap[k]?

theorem Keeps.refl (S : List Nat) (w : World) : Keeps S w w := ⟨rfl, rfl, rfl, Nat.le_refl _, fun _ _ _ => rfl⟩
theorem Keeps.trans {S T : List Nat} {a b c : World} (h : Keeps S a b) (k : Keeps T b c) (hT : ∀ x, x ∈ T → x < a.heap.size → x ∈ S) : Keeps S a c :=
  ⟨k.os.trans h.os, k.tape.trans h.tape, k.output.trans h.output, Nat.le_trans h.size k.size,
    fun i hi hS => (k.block i (Nat.lt_of_lt_of_le hi h.size) (fun ht => hS (hT i ht hi))).trans (h.block i hi hS)⟩
theorem Keeps.trans1 {S : List Nat} {a b c : World} (h : Keeps S a b) (k : Keeps S b c) : Keeps S a c := h.trans k fun _ hx _ => hx
theorem Keeps.mono {S T : List Nat} {a b : World} (h : Keeps S a b) (hT : ∀ x, x ∈ S → x < a.heap.size → x ∈ T) : Keeps T a b := (Keeps.refl T a).trans h hT
theorem Keeps.drew {S : List Nat} {a w : World} (h : Keeps S a w) : Keeps S a w.drew := ⟨h.os, h.tape, h.output, h.size, h.block⟩
theorem Keeps.drewN {S : List Nat} {a w : World} (h : Keeps S a w) (n : Nat) : Keeps S a (w.drewN n) := ⟨h.os, h.tape, h.output, h.size, h.block⟩
theorem Keeps.alloc {S : List Nat} {a w : World} (h : Keeps S a w) (o : Obj) : Keeps S a (w.alloc o) :=
  h.trans (T := []) ⟨rfl, rfl, rfl, by simp, fun k hk _ => Below.heap_alloc _ _ _ hk⟩ fun _ hx => by cases hx
theorem Keeps.setCell {S : List Nat} {a w : World} (h : Keeps S a w) {p : Addr} (hp : p.block < a.heap.size → p.block ∈ S) (u : Value) : Keeps S a (w.setCell p u) :=
  h.trans (T := [p.block]) ⟨rfl, rfl, rfl, by simp [World.setCell], fun k _ hk => Below.heap_setCell _ _ _ _ (by simpa using hk)⟩ fun x hx => by simp at hx; subst hx; exact hp
theorem Keeps.below {a w : World} {B : Nat} (h : Below B a w) (hB : B = a.heap.size) : Keeps [] a w := ⟨h.os, h.tape, h.output, h.size, fun k hk _ => h.block k (by omega)⟩
theorem Keeps.toBelow {a w : World} (h : Keeps [] a w) : Below a.heap.size a w := ⟨h.os, h.tape, h.output, h.size, fun k hk => h.block k hk (by simp)⟩
theorem Row.keeps {S : List Nat} {w w' : World} {b : Nat} {L : List Nat} (h : Row w b L) (hk : Keeps S w w') (hb : b ∉ S) : Row w' b L := by
  have hlt := h.lt
  unfold Row at *
  rw [hk.block b hlt hb]; exact h
theorem blk_keeps {S : List Nat} {w w' : World} {b : Nat} {o : Obj} (h : w.heap[b]? = some o) (hk : Keeps S w w') (hb : b ∉ S) : w'.heap[b]? = some o := by
  rw [hk.block b (lt_of_block h) hb]; exact h

/-- The header of a Nat: its limbs lie at the head of block lb, n of them, room for c. -/
def Hdr (w : World) (p lb n c : Nat) : Prop := w.heap[p]? = some (.cells #[.slice (some ⟨lb, 0, none⟩) n c] 112 (0, 0))
theorem Hdr.lt {w : World} {p lb n c : Nat} (h : Hdr w p lb n c) : p < w.heap.size := lt_of_block h
theorem Hdr.cell {w : World} {p lb n c : Nat} (h : Hdr w p lb n c) : w.cell? ⟨p, 0, none⟩ = some (.slice (some ⟨lb, 0, none⟩) n c) := cell_of_one h
theorem Hdr.free {w : World} {p lb n c : Nat} (h : Hdr w p lb n c) : w.frozen? ⟨p, 0, none⟩ = false := free_of_one h
theorem Hdr.set {w : World} {p lb n c : Nat} (h : Hdr w p lb n c) (lb' n' c' : Nat) : Hdr (w.setCell ⟨p, 0, none⟩ (.slice (some ⟨lb', 0, none⟩) n' c')) p lb' n' c' := one_setCell h
theorem Hdr.other {w : World} {p lb n c : Nat} (h : Hdr w p lb n c) {a : Addr} (ha : p ≠ a.block) (v : Value) : Hdr (w.setCell a v) p lb n c := by
  unfold Hdr at *
  rw [Below.heap_setCell _ _ _ _ ha]; exact h
theorem Hdr.alloc {w : World} {p lb n c : Nat} (h : Hdr w p lb n c) (o : Obj) : Hdr (w.alloc o) p lb n c := by
  have := h.lt
  unfold Hdr at *
  rw [Below.heap_alloc _ _ _ this]; exact h
theorem Hdr.keeps {S : List Nat} {w w' : World} {p lb n c : Nat} (h : Hdr w p lb n c) (hk : Keeps S w w') (hb : p ∉ S) : Hdr w' p lb n c := blk_keeps h hk hb
theorem Hdr.ne {w : World} {p lb n c b : Nat} {L : List Nat} (h : Hdr w p lb n c) (hr : Row w b L) : p ≠ b := by
  rintro rfl
  unfold Hdr at h
  unfold Row at hr
  rw [h] at hr
  have := congrArg (fun x => match x with | some (Obj.cells a t _) => t | _ => 0) hr
  simp at this

theorem Row.inj {w : World} {b : Nat} {L M : List Nat} (h : Row w b L) (k : Row w b M) : L = M := by
  unfold Row at *
  rw [h] at k
  simp only [Option.some.injEq, Obj.cells.injEq, and_true] at k
  unfold u64s at k
  refine (List.map_inj_right (f := fun (x : Nat) => Value.int .u64 (x : Int)) fun x y hxy => ?_).1 (congrArg Array.toList k)
  have h3 : (x : Int) = (y : Int) := by simpa using hxy
  omega

/-- A Nat: at p, its limbs in block lb, n of them with room for c, its value v. -/
structure NatV (w : World) (p lb n c v : Nat) : Prop where
  hdr : Hdr w p lb n c
  row : ∃ L J, Row w lb (L ++ J) ∧ L.length = n ∧ L.length + J.length = c ∧ Lt L ∧ val L = v
theorem NatV.le {w : World} {p lb n c v : Nat} (h : NatV w p lb n c v) : n ≤ c := by
  obtain ⟨_, L, J, _, h1, h2, _⟩ := h; omega
theorem NatV.lt {w : World} {p lb n c v : Nat} (h : NatV w p lb n c v) : v < BB ^ n := by
  obtain ⟨_, L, J, _, h1, h2, h3, rfl⟩ := h; rw [← h1]; exact val_lt h3
theorem NatV.ne {w : World} {p lb n c v : Nat} (h : NatV w p lb n c v) : p ≠ lb := by
  obtain ⟨h0, L, J, h1, _⟩ := h; exact h0.ne h1
theorem NatV.plt {w : World} {p lb n c v : Nat} (h : NatV w p lb n c v) : p < w.heap.size := h.hdr.lt
theorem NatV.blt {w : World} {p lb n c v : Nat} (h : NatV w p lb n c v) : lb < w.heap.size := by
  obtain ⟨h0, L, J, h1, _⟩ := h; exact h1.lt
theorem NatV.keeps {S : List Nat} {w w' : World} {p lb n c v : Nat} (h : NatV w p lb n c v) (hk : Keeps S w w') (hp : p ∉ S) (hl : lb ∉ S) : NatV w' p lb n c v :=
  ⟨h.hdr.keeps hk hp, by obtain ⟨_, L, J, h1, h2⟩ := h; exact ⟨L, J, h1.keeps hk hl, h2⟩⟩
theorem NatV.kept {w w' : World} {p lb n c v : Nat} (h : NatV w p lb n c v) (hk : Keeps [] w w') : NatV w' p lb n c v := h.keeps hk (by simp) (by simp)
theorem NatV.val_eq {w : World} {p lb n c v u : Nat} (h : NatV w p lb n c v) (k : NatV w p lb n c u) : v = u := by
  obtain ⟨_, L, J, h1, h2, h3, h4, rfl⟩ := h
  obtain ⟨_, M, I, k1, k2, k3, k4, rfl⟩ := k
  have := h1.inj k1
  rw [(List.append_inj this (by omega)).1]

end Go.Proofs.YtnfjmngchapdnaaGreatDoor
