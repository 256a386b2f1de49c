import Derived.Test.YtnfjmngchapdnaaDoorMRsaPub
import Derived.Outline
/- Numbers of 32-bit words: lBare, bOdd, lOne. -/
namespace Go.Proofs.YtnfjmngchapdnaaDoor
open Go.RowKit

def W32 : Nat := 4294967296
theorem W32_eq : W32 = 4294967296 := rfl
def val32 : List Nat → Nat
  | [] => 0
  | x :: L => x + W32 * val32 L
def Lt32 (L : List Nat) : Prop := ∀ x, x ∈ L → x < W32
def u32s (L : List Nat) : List Value := L.map fun (x : Nat) => .int .u32 (x : Int)
def Bare (M : List Nat) : Prop := ∀ k, M.length = k + 1 → M[k]? ≠ some 0

/-- A slice of 32-bit words that holds M. -/
def N32 (w : World) (a : Option Addr) (n c : Nat) (M : List Nat) : Prop :=
  M.length = n ∧ n ≤ c ∧ Lt32 M ∧ (M ≠ [] → ∃ b o, a = some ⟨b, o, none⟩ ∧ b < w.heap.size ∧ ∀ i (h : i < M.length), w.cell? ⟨b, o + i, none⟩ = some (.int .u32 (M[i] : Int)))
theorem N32.keeps {S : List Nat} {w w' : World} {a : Option Addr} {n c : Nat} {L : List Nat} (h : N32 w a n c L) (hk : Keeps S w w') (hS : ∀ b, b ∈ S → w.heap.size ≤ b) : N32 w' a n c L := by
  obtain ⟨h1, h2, h3, h4⟩ := h
  refine ⟨h1, h2, h3, fun hne => ?_⟩
  obtain ⟨b, o, e, hb, hB⟩ := h4 hne
  refine ⟨b, o, e, Nat.lt_of_lt_of_le hb hk.size, fun i hi => ?_⟩
  rw [← hB i hi]
  exact World.cell?_of_block (w := w) (hk.block b hb (fun hm => by have := hS b hm; omega))
theorem N32.kept {w w' : World} {a : Option Addr} {n c : Nat} {L : List Nat} (h : N32 w a n c L) (hk : Keeps [] w w') : N32 w' a n c L := h.keeps hk (by simp)

theorem val32_append (L M : List Nat) : val32 (L ++ M) = val32 L + W32 ^ L.length * val32 M := by
  induction L with
  | nil => simp [val32]
  | cons x L ih => simp only [List.cons_append, val32, ih, List.length_cons, Nat.pow_succ, Nat.mul_add, Nat.add_assoc, Nat.mul_comm (W32 ^ L.length) W32, Nat.mul_assoc]
theorem val32_lt {L : List Nat} (h : Lt32 L) : val32 L < W32 ^ L.length := by
  induction L with
  | nil => simp [val32]
  | cons x L ih =>
    have h1 := h x (by simp)
    have h2 := ih fun y hy => h y (by simp [hy])
    simp only [val32, List.length_cons, Nat.pow_succ]
    have h3 : W32 * (val32 L + 1) ≤ W32 * W32 ^ L.length := Nat.mul_le_mul_left _ h2
    rw [Nat.mul_add, Nat.mul_comm W32 (W32 ^ L.length)] at h3
    omega
theorem val32_snoc (L : List Nat) (x : Nat) : val32 (L ++ [x]) = val32 L + W32 ^ L.length * x := by
  rw [val32_append]; simp [val32]
theorem val32_take (L : List Nat) (k : Nat) (h : L.length = k + 1) (h0 : L[k]? = some 0) : val32 (L.take k) = val32 L := by
  have e : L = L.take k ++ [0] := by
    have h1 := List.take_append_drop k L
    have h2 : L.drop k = [0] := by
      have h3 : k < L.length := by omega
      rw [List.drop_eq_getElem_cons h3, List.drop_of_length_le (by omega)]
      rw [List.getElem?_eq_getElem h3] at h0
      simpa using h0
    rw [h2] at h1; exact h1.symm
  rw [← Nat.add_zero (val32 (L.take k)), ← Nat.mul_zero (W32 ^ (L.take k).length), ← val32_snoc, ← e]
theorem val32_mod2 (x : Nat) (L : List Nat) : val32 (x :: L) % 2 = x % 2 := by
  simp only [val32, W32]; omega
theorem val32_bare_lt {L : List Nat} (hb : Bare L) (k : Nat) (h : L.length = k + 1) : W32 ^ k ≤ val32 L := by
  have h3 : k < L.length := by omega
  have h1 := List.take_append_drop k L
  rw [List.drop_eq_getElem_cons h3, List.drop_of_length_le (by omega)] at h1
  have hx : L[k] ≠ 0 := by
    have := hb k h
    rw [List.getElem?_eq_getElem h3] at this
    simpa using this
  rw [← h1, val32_snoc, List.length_take, Nat.min_eq_left (by omega)]
  have : W32 ^ k * 1 ≤ W32 ^ k * L[k] := Nat.mul_le_mul_left _ (by omega)
  omega
theorem val32_bare_one {L : List Nat} (hl : Lt32 L) (hb : Bare L) : val32 L = 1 ↔ L = [1] := by
  constructor
  · intro h
    rcases L with _ | ⟨x, _ | ⟨y, L⟩⟩
    · simp [val32] at h
    · simp [val32] at h; rw [h]
    · have h1 := val32_bare_lt hb (L.length + 1) (by simp)
      have h2 : W32 ^ 1 ≤ W32 ^ (L.length + 1) := Nat.pow_le_pow_right (by decide) (by omega)
      have h3 : W32 ^ 1 = 4294967296 := by decide
      omega
  · rintro rfl; rfl

theorem ret_bool {b c : Bool} (h : b = c) : (Ending.returned (.bool b)) = .returned (.bool c) := by rw [h]
theorem bits_and_u32_one (a : Nat) (ha : a < 4294967296) : Go.bits .and .u32 (a : Int) 1 = ((a % 2 : Nat) : Int) := by
  have h1 : (BitVec.ofInt 32 (a : Int)).toNat = a := by
    rw [BitVec.ofInt_natCast, BitVec.toNat_ofNat]; exact Nat.mod_eq_of_lt (by omega)
  have h2 : (BitVec.ofInt 32 (1 : Int)).toNat = 1 := by decide
  show IntKind.u32.wrap ((BitVec.ofInt 32 (a : Int) &&& BitVec.ofInt 32 (1 : Int)).toNat : Int) = _
  rw [BitVec.toNat_and, h1, h2, Nat.and_one_is_mod]
  rcases Nat.mod_two_eq_zero_or_one a with h | h <;> rw [h] <;> decide

set_option maxRecDepth 100000 in
set_option maxHeartbeats 1000000 in
theorem lBare_any (a : Option Addr) (n c : Nat) (M : List Nat) (w : World) (h : N32 w a n c M) (hn : n ≤ 1000) :
    Calls Tryd.prog 22 #[.slice a n c] w fun e w' =>
      (∃ n' c' M', e = .returned (.slice a n' c') ∧ N32 w a n' c' M' ∧ val32 M' = val32 M ∧ Bare M' ∧ n' ≤ n) ∧ w = w' := by
  have H := Lib.hid h
  go_enter Tryd.func22, Tryd.ntmps22
  go_wp2
  go_loopw [0] (fun v wr => ∃ k M', v = .slice a k c ∧ k ≤ n ∧ N32 w a k c M' ∧ val32 M' = val32 M ∧ wr = w) (fun v _ => (match v with | .slice _ k _ => k | _ => 0))
  case atStart => exact ⟨n, M, rfl, Nat.le_refl _, H.out, rfl, rfl⟩
  case round =>
    obtain ⟨k, M', rfl, hk, hN, hv, rfl⟩ := hrel
    have HN := Lib.hid hN; have HV := Lib.hid hv
    obtain ⟨g1, g2, g3, g4⟩ := hN
    rcases Nat.eq_zero_or_pos k with h0 | h0
    · subst h0
      go_wp2
      go_ret
      exact ⟨⟨0, c, M', rfl, HN.out, HV.out, fun j hj => by omega, by omega⟩, rfl⟩
    · obtain ⟨b, o, rfl, hb, hc⟩ := g4 (by intro e; subst e; simp at g1; omega)
      have cc := hc (k - 1) (by omega)
      have i1 : (0 : Int) < (k : Int) := by omega
      have i2 : (0 : Int) ≤ (k : Int) - 1 := by omega
      have i3 : (k : Int) - 1 < (k : Int) := by omega
      have i4 : ((k : Int) - 1).toNat = k - 1 := by omega
      obtain ⟨x, hx⟩ : ∃ x, x = M'[k - 1]'(by omega) := ⟨_, rfl⟩
      rw [← hx] at cc
      have HX := Lib.hid hx
      clear hx hc hv h
      by_cases hx0 : x = 0
      · subst hx0
        have i5 : ¬ (c = 0) := by omega
        have i6 : (k : Int) - 1 ≤ (c : Int) := by omega
        go_wp2
        have h0' : M'[k - 1]? = some 0 := by rw [List.getElem?_eq_getElem (by omega), ← HX.out]
        have hlen : M'.length = (k - 1) + 1 := by omega
        obtain ⟨g1, g2, g3, g4⟩ := HN.out
        obtain ⟨b', o', e', hb', hc'⟩ := g4 (by intro e; subst e; simp at g1; omega)
        refine ⟨⟨k - 1, M'.take (k - 1), rfl, by omega, ⟨by simp; omega, by omega, fun y hy => g3 y (List.mem_of_mem_take hy), fun _ => ⟨b', o', e', hb', fun i hi => ?_⟩⟩, by rw [val32_take M' (k - 1) hlen h0']; exact HV.out, trivial⟩, by show k - 1 < k; omega⟩
        rw [hc' i (by simp at hi; omega)]; simp
      · have i5 : ¬ ((x : Int) = 0) := by omega
        go_wp2
        go_ret
        refine ⟨⟨k, c, M', rfl, HN.out, HV.out, fun j hj h0' => ?_, hk⟩, rfl⟩
        have : j = k - 1 := by omega
        subst this
        rw [List.getElem?_eq_getElem (by omega), ← HX.out] at h0'
        simp at h0'; omega

set_option maxRecDepth 100000 in
set_option maxHeartbeats 1000000 in
theorem bOdd_any (a : Option Addr) (n c : Nat) (M : List Nat) (w : World) (h : N32 w a n c M) :
    Calls Tryd.prog 29 #[.slice a n c] w fun e w' =>
      (∃ r, e = .returned (.bool r) ∧ (r = true ↔ val32 M % 2 = 1)) ∧ w = w' := by
  obtain ⟨g1, g2, g3, g4⟩ := h
  go_enter Tryd.func29, Tryd.ntmps29
  rcases M with _ | ⟨x, M⟩
  · have h0 : n = 0 := by rw [← g1]; rfl
    subst h0
    go_wp2
    go_ret
    exact ⟨⟨false, rfl, by simp [val32]⟩, rfl⟩
  · obtain ⟨b, o, rfl, hb, hc⟩ := g4 (by simp)
    have cc := hc 0 (by simp)
    have i1 : (0 : Int) < (n : Int) := by simp at g1; omega
    have hx := g3 x (by simp)
    simp only [List.getElem_cons_zero, Nat.add_zero] at cc
    rw [W32_eq] at hx
    have hand := bits_and_u32_one x hx
    clear hc g1
    rw [val32_mod2]
    rcases Nat.mod_two_eq_zero_or_one x with h2 | h2
    · rw [h2] at hand
      have hand' : Go.bits .and .u32 (x : Int) 1 = 0 := hand
      clear hand
      go_wp2
      go_ret
      exact ⟨⟨false, rfl, by simp [h2]⟩, rfl⟩
    · rw [h2] at hand
      have hand' : Go.bits .and .u32 (x : Int) 1 = 1 := hand
      clear hand
      go_wp2
      go_ret
      exact ⟨⟨true, rfl, by simp [h2]⟩, rfl⟩

set_option maxRecDepth 100000 in
set_option maxHeartbeats 1000000 in
theorem lOne_any (a : Option Addr) (n c : Nat) (M : List Nat) (w : World) (h : N32 w a n c M) (hb : Bare M) :
    Calls Tryd.prog 30 #[.slice a n c] w fun e w' =>
      (∃ r, e = .returned (.bool r) ∧ (r = true ↔ val32 M = 1)) ∧ w = w' := by
  obtain ⟨g1, g2, g3, g4⟩ := h
  have e1 := val32_bare_one g3 hb
  go_enter Tryd.func30, Tryd.ntmps30
  by_cases hn : n = 1
  · subst hn
    rcases M with _ | ⟨x, _ | ⟨y, M⟩⟩
    · simp at g1
    · obtain ⟨b, o, rfl, hb, hc⟩ := g4 (by simp)
      have cc := hc 0 (by simp)
      simp only [List.getElem_cons_zero, Nat.add_zero] at cc
      clear hc
      by_cases hx : (x : Int) = 1
      · rw [hx] at cc
        go_wp2
        go_ret
        refine ⟨⟨true, rfl, ?_⟩, rfl⟩
        have : x = 1 := by omega
        subst this
        simp [val32]
      · have hxb : ((x : Int) == 1) = false := beq_false_of_ne hx
        go_wp2
        go_ret
        refine ⟨⟨false, rfl, ?_⟩, rfl⟩
        rw [e1]
        simp
        omega
    · simp at g1
  · have i1 : ¬ ((n : Int) = 1) := by omega
    go_wp2
    go_ret
    refine ⟨⟨false, rfl, ?_⟩, rfl⟩
    rw [e1]
    simp
    intro e
    rw [e] at g1
    simp at g1
    omega

end Go.Proofs.YtnfjmngchapdnaaDoor
