import Derived.Test.YtnfjmngchapdnaaGreatDoorMRsaPub
import Derived.Shelf.Slices.Clone
import Derived.Outline
import Derived.Test.YtnfjmngchapdnaaGreatDoorMMath
import Derived.Test.YtnfjmngchapdnaaGreatDoorTxt
/- slices.Clone of bytes, rsa.ZZNewPublicKey, ZZCheckPublicKey, impl.publicOf. -/
namespace Go.Proofs.YtnfjmngchapdnaaGreatDoor
open Go.RowKit

def u8s (L : List Nat) : List Value := L.map fun (x : Nat) => .int .u8 (x : Int)
theorem und_bytes : Tryz.prog.underlying 22 = some (.slice 5) := by kernel_rfl
theorem info_byte : (Tryz.prog.info? 5).map (fun i => (i.zero, i.size, i.bytes)) = some (some (.int .u8 0), 1, 1) := by kernel_rfl

theorem alloc_cell (w : World) (C : Array Value) (t : TypeId) (i : Nat) : (w.alloc (.cells C t)).cell? ⟨w.heap.size, i, none⟩ = C[i]? := by
  have h : (w.alloc (.cells C t)).heap[w.heap.size]? = some (.cells C t (0, 0)) := by
    show (w.heap.push _)[w.heap.size]? = _
    rw [Array.getElem?_push, if_pos rfl]
  unfold World.cell?
  rw [h]; rfl

/-- What an append to a row of bytes of one's own leaves. -/
theorem SlB.of_own {w : World} {B : Nat} {v : Value} {n : Nat} {L : List Nat} (h : w.ownsRow B 5 1 v n (u8s L)) (hL : LtB L) :
    ∃ a c, v = .slice a n c ∧ SlB w a n c L ∧ (L ≠ [] → ∃ b, a = some ⟨b, 0, none⟩ ∧ B ≤ b) := by
  obtain ⟨h1, h2⟩ := h
  have hn : L.length = n := by simpa [u8s] using h1
  rcases h2 with ⟨rfl, rfl⟩ | ⟨g, cap, cur, rfl, hb, hg, hc, hm, hs, ht⟩
  · have : L = [] := List.length_eq_zero_iff.1 hn
    subst this
    exact ⟨none, 0, rfl, ⟨rfl, Nat.le_refl _, hL, fun h => absurd rfl h⟩, fun h => absurd rfl h⟩
  · refine ⟨some ⟨g, 0, none⟩, cap, rfl, ⟨hn, hc, hL, fun _ => ⟨g, 0, rfl, lt_of_block hg, ?_⟩⟩, fun _ => ⟨g, rfl, hb⟩⟩
    intro i hi
    have e : (u8s L)[i]? = some (.int .u8 (L[i] : Int)) := by simp [u8s, hi]
    rw [← ht, List.getElem?_take] at e
    split at e
    · simp only [World.cell?, hg, Nat.zero_add]
      rw [← e]; simp
    · simp at e

set_option maxHeartbeats 2000000 in
set_option maxRecDepth 100000 in
theorem clone_bytes (a : Option Addr) (m c : Nat) (L : List Nat) (w : World) (hs : SlB w a m c L) (hm : m ≤ 100000) :
    Calls Tryz.prog 25 #[.slice a m c] w fun e w' =>
      ∃ a' c', e = .returned (.slice a' m c') ∧ SlB w' a' m c' L ∧ (L ≠ [] → ∃ b, a' = some ⟨b, 0, none⟩ ∧ w.heap.size ≤ b) ∧ Keeps [] w w' := by
  obtain ⟨i0, hi, hz0, hz1, hz2⟩ := info_parts info_byte
  have hu := und_bytes
  have q22 : ∀ (w : World) (a : Option Addr) (n c n' c' : Nat), (binOp .eql 22 (.slice a n c) (.slice none n' c')).run Tryz.prog w = .ok (.bool a.isNone) w := fun w a n c n' c' => Lib.run_eql_slice_nil w _ _ a n c n' c' und_bytes
  have HS := Lib.hid hs
  obtain ⟨h1, h2, h3, h4⟩ := hs
  rcases a with _ | ad
  · have hL : L = [] := by
      rcases List.eq_nil_or_concat L with h | ⟨M, x, h⟩
      · exact h
      · obtain ⟨b, o, e, _⟩ := h4 (by rw [h]; simp)
        simp at e
    clear h4
    have hm0 : m = 0 := by rw [← h1, hL]; rfl
    subst hm0
    subst hL
    go_enter Tryz.func25, Tryz.ntmps25
    go_wp2
    go_ret
    exact ⟨none, 0, rfl, ⟨rfl, Nat.le_refl _, h3, fun h => absurd rfl h⟩, fun h => absurd rfl h, Keeps.refl _ _⟩
  · have H4 := Lib.hid h4
    clear h4
    go_enter Tryz.func25, Tryz.ntmps25
    go_wp2_with (at_builtin; refine wpList_append_own _ rfl _ _ 22 rfl w.heap.size 5 i0 (.int .u8 0) 1 1 hu hi hz0 hz1 hz2 rfl (by decide) _ _ _ rfl (World.ownsRow_made w #[] 0 (Nat.le_refl _) (Nat.zero_le _) rfl) ad m c (u8s L) rfl ?qc1 ?qc2 ?qc3 ?qc4 ?qc5 ?qc6 ?_)
    case qc1 => simp [u8s, h1]
    case qc2 =>
      intro j u hj
      have hjn : j < L.length := by
        have := (List.getElem?_eq_some_iff.1 hj).1
        simpa [u8s] using this
      obtain ⟨b, o, e, hb, hB⟩ := H4.out (by intro h; simp [h] at hjn)
      have e' : ad = ⟨b, o, none⟩ := by simpa using e
      subst e'
      have h5 := hB j hjn
      rw [Addr.add_lit]
      refine Lib.cell?_alloc_some _ ?_
      rw [h5]
      simpa [u8s, hjn] using hj
    case qc3 => intro u hu; obtain ⟨x, _, rfl⟩ := List.mem_map.1 hu; rfl
    case qc4 => unfold maxLen; omega
    case qc5 => omega
    case qc6 => simp
    intro v' w1 hown hgrow hnil
    go_wp2
    go_ret
    have hk : Keeps [] w w1 := Keeps.below (((Below.refl _ w).alloc (Nat.le_refl _) _).grown hgrow (by simp) (by intro k hk; simp [Value.ownBlock] at hk; omega)) rfl
    have hown' : w1.ownsRow w.heap.size 5 1 v' m (u8s L) := by simpa using hown
    obtain ⟨a', c', rfl, h5, h6⟩ := SlB.of_own hown' h3
    exact ⟨a', c', rfl, h5, h6, hk⟩

end Go.Proofs.YtnfjmngchapdnaaGreatDoor

/- Numbers of 32-bit words: lBare, bOdd, lOne. -/
namespace Go.Proofs.YtnfjmngchapdnaaGreatDoor
open Go.RowKit

def W32 : Nat := 4294967296
theorem W32_eq : W32 = 4294967296 := rfl
def val32 : List Nat → Nat
  | [] => 0
  | x :: L => x + W32 * val32 L
def Lt32 (L : List Nat) : Prop := ∀ x, x ∈ L → x < W32
def u32s (L : List Nat) : List Value := L.map fun (x : Nat) => .int .u32 (x : Int)
def Bare (M : List Nat) : Prop := ∀ k, M.length = k + 1 → M[k]? ≠ some 0

/-- A slice of 32-bit words that holds M. -/
def N32 (w : World) (a : Option Addr) (n c : Nat) (M : List Nat) : Prop :=
  M.length = n ∧ n ≤ c ∧ Lt32 M ∧ (M ≠ [] → ∃ b o, a = some ⟨b, o, none⟩ ∧ b < w.heap.size ∧ ∀ i (h : i < M.length), w.cell? ⟨b, o + i, none⟩ = some (.int .u32 (M[i] : Int)))
theorem N32.keeps {S : List Nat} {w w' : World} {a : Option Addr} {n c : Nat} {L : List Nat} (h : N32 w a n c L) (hk : Keeps S w w') (hS : ∀ b, b ∈ S → w.heap.size ≤ b) : N32 w' a n c L := by
  obtain ⟨h1, h2, h3, h4⟩ := h
  refine ⟨h1, h2, h3, fun hne => ?_⟩
  obtain ⟨b, o, e, hb, hB⟩ := h4 hne
  refine ⟨b, o, e, Nat.lt_of_lt_of_le hb hk.size, fun i hi => ?_⟩
  rw [← hB i hi]
  exact World.cell?_of_block (w := w) (hk.block b hb (fun hm => by have := hS b hm; omega))
theorem N32.kept {w w' : World} {a : Option Addr} {n c : Nat} {L : List Nat} (h : N32 w a n c L) (hk : Keeps [] w w') : N32 w' a n c L := h.keeps hk (by simp)

theorem val32_append (L M : List Nat) : val32 (L ++ M) = val32 L + W32 ^ L.length * val32 M := by
  induction L with
  | nil => simp [val32]
  | cons x L ih => simp only [List.cons_append, val32, ih, List.length_cons, Nat.pow_succ, Nat.mul_add, Nat.add_assoc, Nat.mul_comm (W32 ^ L.length) W32, Nat.mul_assoc]
theorem val32_lt {L : List Nat} (h : Lt32 L) : val32 L < W32 ^ L.length := by
  induction L with
  | nil => simp [val32]
  | cons x L ih =>
    have h1 := h x (by simp)
    have h2 := ih fun y hy => h y (by simp [hy])
    simp only [val32, List.length_cons, Nat.pow_succ]
    have h3 : W32 * (val32 L + 1) ≤ W32 * W32 ^ L.length := Nat.mul_le_mul_left _ h2
    rw [Nat.mul_add, Nat.mul_comm W32 (W32 ^ L.length)] at h3
    omega
theorem val32_snoc (L : List Nat) (x : Nat) : val32 (L ++ [x]) = val32 L + W32 ^ L.length * x := by
  rw [val32_append]; simp [val32]
theorem val32_take (L : List Nat) (k : Nat) (h : L.length = k + 1) (h0 : L[k]? = some 0) : val32 (L.take k) = val32 L := by
  have e : L = L.take k ++ [0] := by
    have h1 := List.take_append_drop k L
    have h2 : L.drop k = [0] := by
      have h3 : k < L.length := by omega
      rw [List.drop_eq_getElem_cons h3, List.drop_of_length_le (by omega)]
      rw [List.getElem?_eq_getElem h3] at h0
      simpa using h0
    rw [h2] at h1; exact h1.symm
  rw [← Nat.add_zero (val32 (L.take k)), ← Nat.mul_zero (W32 ^ (L.take k).length), ← val32_snoc, ← e]
theorem val32_mod2 (x : Nat) (L : List Nat) : val32 (x :: L) % 2 = x % 2 := by
  simp only [val32, W32]; omega
theorem val32_bare_lt {L : List Nat} (hb : Bare L) (k : Nat) (h : L.length = k + 1) : W32 ^ k ≤ val32 L := by
  have h3 : k < L.length := by omega
  have h1 := List.take_append_drop k L
  rw [List.drop_eq_getElem_cons h3, List.drop_of_length_le (by omega)] at h1
  have hx : L[k] ≠ 0 := by
    have := hb k h
    rw [List.getElem?_eq_getElem h3] at this
    simpa using this
  rw [← h1, val32_snoc, List.length_take, Nat.min_eq_left (by omega)]
  have : W32 ^ k * 1 ≤ W32 ^ k * L[k] := Nat.mul_le_mul_left _ (by omega)
  omega
theorem val32_bare_one {L : List Nat} (hl : Lt32 L) (hb : Bare L) : val32 L = 1 ↔ L = [1] := by
  constructor
  · intro h
    rcases L with _ | ⟨x, _ | ⟨y, L⟩⟩
    · simp [val32] at h
    · simp [val32] at h; rw [h]
    · have h1 := val32_bare_lt hb (L.length + 1) (by simp)
      have h2 : W32 ^ 1 ≤ W32 ^ (L.length + 1) := Nat.pow_le_pow_right (by decide) (by omega)
      have h3 : W32 ^ 1 = 4294967296 := by decide
      omega
  · rintro rfl; rfl

theorem ret_bool {b c : Bool} (h : b = c) : (Ending.returned (.bool b)) = .returned (.bool c) := by rw [h]
theorem bits_and_u32_one (a : Nat) (ha : a < 4294967296) : Go.bits .and .u32 (a : Int) 1 = ((a % 2 : Nat) : Int) := by
  have h1 : (BitVec.ofInt 32 (a : Int)).toNat = a := by
    rw [BitVec.ofInt_natCast, BitVec.toNat_ofNat]; exact Nat.mod_eq_of_lt (by omega)
  have h2 : (BitVec.ofInt 32 (1 : Int)).toNat = 1 := by decide
  show IntKind.u32.wrap ((BitVec.ofInt 32 (a : Int) &&& BitVec.ofInt 32 (1 : Int)).toNat : Int) = _
  rw [BitVec.toNat_and, h1, h2, Nat.and_one_is_mod]
  rcases Nat.mod_two_eq_zero_or_one a with h | h <;> rw [h] <;> decide

set_option maxRecDepth 100000 in
set_option maxHeartbeats 1000000 in
theorem lBare_any (a : Option Addr) (n c : Nat) (M : List Nat) (w : World) (h : N32 w a n c M) (hn : n ≤ 1000) :
    Calls Tryz.prog 35 #[.slice a n c] w fun e w' =>
      (∃ n' c' M', e = .returned (.slice a n' c') ∧ N32 w a n' c' M' ∧ val32 M' = val32 M ∧ Bare M' ∧ n' ≤ n) ∧ w = w' := by
  have H := Lib.hid h
  go_enter Tryz.func35, Tryz.ntmps35
  go_wp2
  go_loopw [0] (fun v wr => ∃ k M', v = .slice a k c ∧ k ≤ n ∧ N32 w a k c M' ∧ val32 M' = val32 M ∧ wr = w) (fun v _ => (match v with | .slice _ k _ => k | _ => 0))
  case atStart => exact ⟨n, M, rfl, Nat.le_refl _, H.out, rfl, rfl⟩
  case round =>
    obtain ⟨k, M', rfl, hk, hN, hv, rfl⟩ := hrel
    have HN := Lib.hid hN; have HV := Lib.hid hv
    obtain ⟨g1, g2, g3, g4⟩ := hN
    rcases Nat.eq_zero_or_pos k with h0 | h0
    · subst h0
      go_wp2
      go_ret
      exact ⟨⟨0, c, M', rfl, HN.out, HV.out, fun j hj => by omega, by omega⟩, rfl⟩
    · obtain ⟨b, o, rfl, hb, hc⟩ := g4 (by intro e; subst e; simp at g1; omega)
      have cc := hc (k - 1) (by omega)
      have i1 : (0 : Int) < (k : Int) := by omega
      have i2 : (0 : Int) ≤ (k : Int) - 1 := by omega
      have i3 : (k : Int) - 1 < (k : Int) := by omega
      have i4 : ((k : Int) - 1).toNat = k - 1 := by omega
      obtain ⟨x, hx⟩ : ∃ x, x = M'[k - 1]'(by omega) := ⟨_, rfl⟩
      rw [← hx] at cc
      have HX := Lib.hid hx
      clear hx hc hv h
      by_cases hx0 : x = 0
      · subst hx0
        have i5 : ¬ (c = 0) := by omega
        have i6 : (k : Int) - 1 ≤ (c : Int) := by omega
        go_wp2
        have h0' : M'[k - 1]? = some 0 := by rw [List.getElem?_eq_getElem (by omega), ← HX.out]
        have hlen : M'.length = (k - 1) + 1 := by omega
        obtain ⟨g1, g2, g3, g4⟩ := HN.out
        obtain ⟨b', o', e', hb', hc'⟩ := g4 (by intro e; subst e; simp at g1; omega)
        refine ⟨⟨k - 1, M'.take (k - 1), rfl, by omega, ⟨by simp; omega, by omega, fun y hy => g3 y (List.mem_of_mem_take hy), fun _ => ⟨b', o', e', hb', fun i hi => ?_⟩⟩, by rw [val32_take M' (k - 1) hlen h0']; exact HV.out, trivial⟩, by show k - 1 < k; omega⟩
        rw [hc' i (by simp at hi; omega)]; simp
      · have i5 : ¬ ((x : Int) = 0) := by omega
        go_wp2
        go_ret
        refine ⟨⟨k, c, M', rfl, HN.out, HV.out, fun j hj h0' => ?_, hk⟩, rfl⟩
        have : j = k - 1 := by omega
        subst this
        rw [List.getElem?_eq_getElem (by omega), ← HX.out] at h0'
        simp at h0'; omega

set_option maxRecDepth 100000 in
set_option maxHeartbeats 1000000 in
theorem bOdd_any (a : Option Addr) (n c : Nat) (M : List Nat) (w : World) (h : N32 w a n c M) :
    Calls Tryz.prog 30 #[.slice a n c] w fun e w' =>
      (∃ r, e = .returned (.bool r) ∧ (r = true ↔ val32 M % 2 = 1)) ∧ w = w' := by
  obtain ⟨g1, g2, g3, g4⟩ := h
  go_enter Tryz.func30, Tryz.ntmps30
  rcases M with _ | ⟨x, M⟩
  · have h0 : n = 0 := by rw [← g1]; rfl
    subst h0
    go_wp2
    go_ret
    exact ⟨⟨false, rfl, by simp [val32]⟩, rfl⟩
  · obtain ⟨b, o, rfl, hb, hc⟩ := g4 (by simp)
    have cc := hc 0 (by simp)
    have i1 : (0 : Int) < (n : Int) := by simp at g1; omega
    have hx := g3 x (by simp)
    simp only [List.getElem_cons_zero, Nat.add_zero] at cc
    rw [W32_eq] at hx
    have hand := bits_and_u32_one x hx
    clear hc g1
    rw [val32_mod2]
    rcases Nat.mod_two_eq_zero_or_one x with h2 | h2
    · rw [h2] at hand
      have hand' : Go.bits .and .u32 (x : Int) 1 = 0 := hand
      clear hand
      go_wp2
      go_ret
      exact ⟨⟨false, rfl, by simp [h2]⟩, rfl⟩
    · rw [h2] at hand
      have hand' : Go.bits .and .u32 (x : Int) 1 = 1 := hand
      clear hand
      go_wp2
      go_ret
      exact ⟨⟨true, rfl, by simp [h2]⟩, rfl⟩

set_option maxRecDepth 100000 in
set_option maxHeartbeats 1000000 in
theorem lOne_any (a : Option Addr) (n c : Nat) (M : List Nat) (w : World) (h : N32 w a n c M) (hb : Bare M) :
    Calls Tryz.prog 34 #[.slice a n c] w fun e w' =>
      (∃ r, e = .returned (.bool r) ∧ (r = true ↔ val32 M = 1)) ∧ w = w' := by
  obtain ⟨g1, g2, g3, g4⟩ := h
  have e1 := val32_bare_one g3 hb
  go_enter Tryz.func34, Tryz.ntmps34
  by_cases hn : n = 1
  · subst hn
    rcases M with _ | ⟨x, _ | ⟨y, M⟩⟩
    · simp at g1
    · obtain ⟨b, o, rfl, hb, hc⟩ := g4 (by simp)
      have cc := hc 0 (by simp)
      simp only [List.getElem_cons_zero, Nat.add_zero] at cc
      clear hc
      by_cases hx : (x : Int) = 1
      · rw [hx] at cc
        go_wp2
        go_ret
        refine ⟨⟨true, rfl, ?_⟩, rfl⟩
        have : x = 1 := by omega
        subst this
        simp [val32]
      · have hxb : ((x : Int) == 1) = false := beq_false_of_ne hx
        go_wp2
        go_ret
        refine ⟨⟨false, rfl, ?_⟩, rfl⟩
        rw [e1]
        simp
        omega
    · simp at g1
  · have i1 : ¬ ((n : Int) = 1) := by omega
    go_wp2
    go_ret
    refine ⟨⟨false, rfl, ?_⟩, rfl⟩
    rw [e1]
    simp
    intro e
    rw [e] at g1
    simp at g1
    omega

end Go.Proofs.YtnfjmngchapdnaaGreatDoor

/- Numbers of 32-bit words: LBits, LOrder. -/
namespace Go.Proofs.YtnfjmngchapdnaaGreatDoor
open Go.RowKit

theorem Keeps.cell1 {S : List Nat} {w w' : World} {b i : Nat} {v : Value} (h : w.cell? ⟨b, i, none⟩ = some v) (hk : Keeps S w w') (hb : b < w.heap.size) (hS : b ∉ S) : w'.cell? ⟨b, i, none⟩ = some v := by
  rw [← h]; exact World.cell?_of_block (w := w) (hk.block b hb hS)
theorem W32_pow (k : Nat) : W32 ^ k = 2 ^ (32 * k) := by rw [Nat.pow_mul]; rfl
theorem val32_split (L : List Nat) (k : Nat) (h : k < L.length) : val32 L = val32 (L.take k) + W32 ^ k * (L[k] + W32 * val32 (L.drop (k + 1))) := by
  conv => lhs; rw [← List.take_append_drop k L]
  rw [val32_append, List.drop_eq_getElem_cons h, List.length_take, Nat.min_eq_left (by omega)]
  rfl
theorem Lt32.take {L : List Nat} (h : Lt32 L) (k : Nat) : Lt32 (L.take k) := fun x hx => h x (List.mem_of_mem_take hx)
theorem val32_take_lt {L : List Nat} (h : Lt32 L) (k : Nat) (hk : k ≤ L.length) : val32 (L.take k) < W32 ^ k := by
  have := val32_lt (h.take k)
  rwa [List.length_take, Nat.min_eq_left hk] at this
theorem blen_val32 {M : List Nat} (hl : Lt32 M) (hb : Bare M) (k : Nat) (hk : M.length = k + 1) : blen (val32 M) = 32 * k + blen (M[k]'(by omega)) := by
  have h1 := val32_split M k (by omega)
  rw [List.drop_of_length_le (by omega)] at h1
  have hx : M[k]'(by omega) ≠ 0 := by
    have := hb k hk
    rw [List.getElem?_eq_getElem (by omega)] at this
    simpa using this
  rw [h1, W32_pow]
  simp only [val32, Nat.mul_zero, Nat.add_zero]
  exact blen_concat (by rw [← W32_pow]; exact val32_take_lt hl k (by omega)) hx

set_option maxRecDepth 100000 in
set_option maxHeartbeats 1000000 in
theorem lBits_any (a : Option Addr) (n c : Nat) (M : List Nat) (w : World) (h : N32 w a n c M) (hn : n ≤ 1000) :
    Calls Tryz.prog 15 #[.slice a n c] w fun e w' => e = .returned (.int .i64 (blen (val32 M) : Int)) ∧ w = w' := by
  go_enter Tryz.func15, Tryz.ntmps15
  go_wp2_with fail
  refine (lBare_any a n c M _ h hn).mono ?_
  rintro e w1 ⟨⟨n', c', M', rfl, hN, hv, hB, hn'⟩, rfl⟩
  have HV := Lib.hid hv
  clear hv h
  obtain ⟨g1, g2, g3, g4⟩ := hN
  rcases Nat.eq_zero_or_pos n' with h0 | h0
  · subst h0
    have hM : M' = [] := List.length_eq_zero_iff.1 g1
    have e0 : Hid (blen (val32 M) = 0) := by
      have h := HV.out
      rw [hM] at h
      exact Lib.hid (by rw [← h]; rfl)
    clear hM
    go_wp2
    go_ret
    rw [e0.out]
    exact ⟨rfl, rfl⟩
  · obtain ⟨k, rfl⟩ : ∃ k, n' = k + 1 := ⟨n' - 1, by omega⟩
    obtain ⟨b, o, rfl, hb, hc⟩ := g4 (by intro e; subst e; simp at g1)
    have cc := hc k (by omega)
    have hbl := blen_val32 g3 hB k g1
    have hxlt := g3 (M'[k]'(by omega)) (List.getElem_mem _)
    obtain ⟨x, hx⟩ : ∃ x, x = M'[k]'(by omega) := ⟨_, rfl⟩
    rw [← hx] at cc hbl hxlt
    rw [HV.out] at hbl
    rw [W32_eq] at hxlt
    have HBL := Lib.hid hbl
    clear hx hbl hc
    have i1 : ¬ ((k : Int) + 1) = 0 := by omega
    have i2 : (k : Int) + 1 - 1 = (k : Int) := by omega
    have i3 : (0 : Int) ≤ (k : Int) := by omega
    have i4 : (k : Int) < (k : Int) + 1 := by omega
    have hb32 : blen x ≤ 32 := blen_le_of_lt (by omega)
    go_wp2
    go_loopw [3, 4] (fun l t wr => ∃ (m j : Nat), t = .int .u32 (m : Int) ∧ l = .int .i64 (j : Int) ∧ Hid (j + blen m = 32 * k + blen x) ∧ m < 4294967296 ∧ wr = w) (fun _ t _ => (intOf t).toNat)
    case atStart =>
      exact ⟨x, 32 * k, rfl, by go_num, Lib.hid rfl, hxlt, rfl⟩
    case round =>
      obtain ⟨m, j, rfl, rfl, hj, hm, rfl⟩ := hrel
      by_cases hm0 : m = 0
      · subst hm0
        go_wp2
        go_ret
        have := hj.out
        rw [blen_zero, Nat.add_zero] at this
        exact ⟨ret_int (by rw [HBL.out, this]), rfl⟩
      · have h1 := blen_half hm0
        have H1 := Lib.hid h1
        have h2 := blen_pos hm0
        have hj64 : j ≤ 40000 := by have := hj.out; omega
        have hz : (0 : Int) < (m : Int) := by omega
        clear h1
        go_wp2
        refine ⟨⟨m / 2, j + 1, by go_num, by go_num, Lib.hid (by have := hj.out; have := H1.out; omega), by omega, trivial⟩, by simp [intOf]; omega⟩

def OrdR (x y : Nat) (o : Int) : Prop := (x < y ∧ o = -1) ∨ (x = y ∧ o = 0) ∨ (y < x ∧ o = 1)

theorem val32_len_lt {A B : List Nat} (hA : Lt32 A) (hB : Bare B) (h : A.length < B.length) : val32 A < val32 B := by
  obtain ⟨k, hk⟩ : ∃ k, B.length = k + 1 := ⟨B.length - 1, by omega⟩
  have h1 := val32_lt hA
  have h2 := val32_bare_lt hB k hk
  have h3 : W32 ^ A.length ≤ W32 ^ k := Nat.pow_le_pow_right (by decide) (by omega)
  omega
theorem val32_word_lt {A B : List Nat} (hA : Lt32 A) (hB : Lt32 B) (k : Nat) (hk : k < A.length) (hk2 : k < B.length) (he : A.drop (k + 1) = B.drop (k + 1)) (h : A[k] < B[k]) : val32 A < val32 B := by
  rw [val32_split A k hk, val32_split B k hk2, he]
  have h1 := val32_take_lt hA k (by omega)
  have h2 : W32 ^ k * (A[k] + W32 * val32 (B.drop (k + 1)) + 1) ≤ W32 ^ k * (B[k] + W32 * val32 (B.drop (k + 1))) := Nat.mul_le_mul_left _ (by omega)
  rw [Nat.mul_add, Nat.mul_one] at h2
  omega

set_option maxRecDepth 100000 in
set_option maxHeartbeats 1000000 in
theorem lOrder_any (a a2 : Option Addr) (n c n2 c2 : Nat) (A B : List Nat) (w : World) (hA : N32 w a n c A) (hB : N32 w a2 n2 c2 B) (hn : n ≤ 1000) (hn2 : n2 ≤ 1000) :
    Calls Tryz.prog 19 #[.slice a n c, .slice a2 n2 c2] w fun e w' => (∃ o, e = .returned (.int .i64 o) ∧ OrdR (val32 A) (val32 B) o) ∧ Keeps [] w w' := by
  go_enter Tryz.func19, Tryz.ntmps19
  go_wp2_with fail
  refine (lBare_any a n c A _ hA hn).mono ?_
  rintro e w1 ⟨⟨k, c', M, rfl, hM, hMv, hMb, hk⟩, rfl⟩
  go_wp2_with fail
  refine (lBare_any a2 n2 c2 B _ hB hn2).mono ?_
  rintro e w1 ⟨⟨k2, c2', N, rfl, hN, hNv, hNb, hk2⟩, rfl⟩
  have HMV := Lib.hid hMv; have HNV := Lib.hid hNv
  clear hMv hNv hA hB
  obtain ⟨g1, g2, g3, g4⟩ := hM
  obtain ⟨f1, f2, f3, f4⟩ := hN
  by_cases hlen : k = k2
  · subst hlen
    have G1 := Lib.hid g1; have F1 := Lib.hid f1
    clear g1 f1
    go_wp2
    go_loopw [5] (fun ii wr => ∃ j : Nat, ii = .int .i64 ((j : Int) - 1) ∧ j ≤ k ∧ Hid (M.drop j = N.drop j) ∧ Hid (Keeps [] w wr)) (fun ii _ => (intOf ii + 1).toNat)
    case atStart => exact ⟨k, by go_num, Nat.le_refl _, Lib.hid (by rw [List.drop_of_length_le (by have := G1.out; omega), List.drop_of_length_le (by have := F1.out; omega)]), Lib.hid (Keeps.refl _ _)⟩
    case round =>
      obtain ⟨j, rfl, hj, he, hkp⟩ := hrel
      cases j with
      | zero =>
        have i0 : ¬ (0 : Int) ≤ ((0 : Nat) : Int) - 1 := by omega
        have e0 : M = N := by have := he.out; simpa using this
        subst e0
        go_wp2
        go_ret
        exact ⟨⟨0, rfl, by rw [← HMV.out, ← HNV.out]; exact .inr (.inl ⟨rfl, rfl⟩)⟩, hkp.out⟩
      | succ j =>
        obtain ⟨b, o, rfl, hb, hc⟩ := g4 (by intro e; have := G1.out; subst e; simp at this; omega)
        obtain ⟨b2, o2, rfl, hb2, hc2⟩ := f4 (by intro e; have := F1.out; subst e; simp at this; omega)
        have hjM : j < M.length := by have := G1.out; omega
        have hjN : j < N.length := by have := F1.out; omega
        have cc := Keeps.cell1 (hc j hjM) hkp.out hb (by simp)
        have cc2 := Keeps.cell1 (hc2 j hjN) hkp.out hb2 (by simp)
        obtain ⟨x, hx⟩ : ∃ x, x = M[j] := ⟨_, rfl⟩
        obtain ⟨y, hy⟩ : ∃ y, y = N[j] := ⟨_, rfl⟩
        rw [← hx] at cc
        rw [← hy] at cc2
        have HX := Lib.hid hx; have HY := Lib.hid hy
        clear hx hy hc hc2
        have i2 : ((j + 1 : Nat) : Int) - 1 = (j : Int) := by omega
        have i2' : (j : Int) + 1 - 1 = (j : Int) := by omega
        have i3 : (0 : Int) ≤ (j : Int) := by omega
        have i4 : (j : Int) < (k : Int) := by omega
        rcases Nat.lt_trichotomy x y with hlt | hlt | hlt
        · have i5 : (x : Int) < (y : Int) := by omega
          go_wp2_with fail
          refine wp_region_txt [0,0,0,1,0,0,0,1,0] (fun _ => True) (by kernel_rfl) (by kernel_rfl) trivial ?_
          simp only [withMarks]
          repeat (first
            | ((with_reducible refine txt_v (v := ?_) ?_ ?_); (any_goals ((with_reducible refine Yl.mk ?_ ?_); rfl; intro w hSw; (go_simp <;> (try go_bits) <;> (repeat (first | rw [if_pos (by omega)] | rw [if_neg (by omega)])) <;> with_reducible rfl))); try simp only [Act.put, List.setIfInBounds_toArray, List.set_cons_zero, List.set_cons_succ])
            | ((with_reducible refine txt_u ?_ ?_); rfl; try simp only [Act.put, List.setIfInBounds_toArray, List.set_cons_zero, List.set_cons_succ])
            | ((with_reducible refine txt_l (v := ?_) ?_ ?_); (any_goals ((with_reducible refine Reads.mk ?_ ?_); rfl; (go_simp <;> (try go_bits) <;> (repeat (first | rw [if_pos (by omega)] | rw [if_neg (by omega)])) <;> with_reducible rfl))); try simp only [Act.put, List.setIfInBounds_toArray, List.set_cons_zero, List.set_cons_succ])
            | ((with_reducible refine txt_e ?_ ?_); rfl; intro K hK; go_simp; (first | (refine hK _ _ trivial ?_) | ((first | fail); dsimp only; refine hK _ _ trivial ?_)); clear hK K; try simp only [Act.put, List.setIfInBounds_toArray, List.set_cons_zero, List.set_cons_succ]))
          refine txt_nil ?_
          go_wp2
          go_ret
          exact ⟨⟨-1, rfl, by rw [← HMV.out, ← HNV.out]; exact .inl ⟨val32_word_lt g3 f3 j hjM hjN he.out (by rw [← HX.out, ← HY.out]; exact hlt), rfl⟩⟩, hkp.out.drew⟩
        · have i5 : ¬ (x : Int) < (y : Int) := by omega
          have i6 : ¬ (y : Int) < (x : Int) := by omega
          go_wp2_with fail
          refine wp_region_txt [0,0,0,1,0,0,0,1,0] (fun _ => True) (by kernel_rfl) (by kernel_rfl) trivial ?_
          simp only [withMarks]
          repeat (first
            | ((with_reducible refine txt_v (v := ?_) ?_ ?_); (any_goals ((with_reducible refine Yl.mk ?_ ?_); rfl; intro w hSw; (go_simp <;> (try go_bits) <;> (repeat (first | rw [if_pos (by omega)] | rw [if_neg (by omega)])) <;> with_reducible rfl))); try simp only [Act.put, List.setIfInBounds_toArray, List.set_cons_zero, List.set_cons_succ])
            | ((with_reducible refine txt_u ?_ ?_); rfl; try simp only [Act.put, List.setIfInBounds_toArray, List.set_cons_zero, List.set_cons_succ])
            | ((with_reducible refine txt_l (v := ?_) ?_ ?_); (any_goals ((with_reducible refine Reads.mk ?_ ?_); rfl; (go_simp <;> (try go_bits) <;> (repeat (first | rw [if_pos (by omega)] | rw [if_neg (by omega)])) <;> with_reducible rfl))); try simp only [Act.put, List.setIfInBounds_toArray, List.set_cons_zero, List.set_cons_succ])
            | ((with_reducible refine txt_e ?_ ?_); rfl; intro K hK; go_simp; (first | (refine hK _ _ trivial ?_) | ((first | fail); dsimp only; refine hK _ _ trivial ?_)); clear hK K; try simp only [Act.put, List.setIfInBounds_toArray, List.set_cons_zero, List.set_cons_succ]))
          refine txt_nil ?_
          go_wp2_with fail
          refine wp_region_txt [0,0,0,1,0,0,0,1,0] (fun _ => True) (by kernel_rfl) (by kernel_rfl) trivial ?_
          simp only [withMarks]
          repeat (first
            | ((with_reducible refine txt_v (v := ?_) ?_ ?_); (any_goals ((with_reducible refine Yl.mk ?_ ?_); rfl; intro w hSw; (go_simp <;> (try go_bits) <;> (repeat (first | rw [if_pos (by omega)] | rw [if_neg (by omega)])) <;> with_reducible rfl))); try simp only [Act.put, List.setIfInBounds_toArray, List.set_cons_zero, List.set_cons_succ])
            | ((with_reducible refine txt_u ?_ ?_); rfl; try simp only [Act.put, List.setIfInBounds_toArray, List.set_cons_zero, List.set_cons_succ])
            | ((with_reducible refine txt_l (v := ?_) ?_ ?_); (any_goals ((with_reducible refine Reads.mk ?_ ?_); rfl; (go_simp <;> (try go_bits) <;> (repeat (first | rw [if_pos (by omega)] | rw [if_neg (by omega)])) <;> with_reducible rfl))); try simp only [Act.put, List.setIfInBounds_toArray, List.set_cons_zero, List.set_cons_succ])
            | ((with_reducible refine txt_e ?_ ?_); rfl; intro K hK; go_simp; (first | (refine hK _ _ trivial ?_) | ((first | fail); dsimp only; refine hK _ _ trivial ?_)); clear hK K; try simp only [Act.put, List.setIfInBounds_toArray, List.set_cons_zero, List.set_cons_succ]))
          refine txt_nil ?_
          go_wp2
          refine ⟨⟨j, by go_num, by omega, Lib.hid ?_, Lib.hid hkp.out.drew.drew⟩, by simp [intOf]⟩
          rw [List.drop_eq_getElem_cons hjM, List.drop_eq_getElem_cons hjN, he.out, ← HX.out, ← HY.out, hlt]
        · have i5 : ¬ (x : Int) < (y : Int) := by omega
          have i6 : (y : Int) < (x : Int) := by omega
          go_wp2_with fail
          refine wp_region_txt [0,0,0,1,0,0,0,1,0] (fun _ => True) (by kernel_rfl) (by kernel_rfl) trivial ?_
          simp only [withMarks]
          repeat (first
            | ((with_reducible refine txt_v (v := ?_) ?_ ?_); (any_goals ((with_reducible refine Yl.mk ?_ ?_); rfl; intro w hSw; (go_simp <;> (try go_bits) <;> (repeat (first | rw [if_pos (by omega)] | rw [if_neg (by omega)])) <;> with_reducible rfl))); try simp only [Act.put, List.setIfInBounds_toArray, List.set_cons_zero, List.set_cons_succ])
            | ((with_reducible refine txt_u ?_ ?_); rfl; try simp only [Act.put, List.setIfInBounds_toArray, List.set_cons_zero, List.set_cons_succ])
            | ((with_reducible refine txt_l (v := ?_) ?_ ?_); (any_goals ((with_reducible refine Reads.mk ?_ ?_); rfl; (go_simp <;> (try go_bits) <;> (repeat (first | rw [if_pos (by omega)] | rw [if_neg (by omega)])) <;> with_reducible rfl))); try simp only [Act.put, List.setIfInBounds_toArray, List.set_cons_zero, List.set_cons_succ])
            | ((with_reducible refine txt_e ?_ ?_); rfl; intro K hK; go_simp; (first | (refine hK _ _ trivial ?_) | ((first | fail); dsimp only; refine hK _ _ trivial ?_)); clear hK K; try simp only [Act.put, List.setIfInBounds_toArray, List.set_cons_zero, List.set_cons_succ]))
          refine txt_nil ?_
          go_wp2_with fail
          refine wp_region_txt [0,0,0,1,0,0,0,1,0] (fun _ => True) (by kernel_rfl) (by kernel_rfl) trivial ?_
          simp only [withMarks]
          repeat (first
            | ((with_reducible refine txt_v (v := ?_) ?_ ?_); (any_goals ((with_reducible refine Yl.mk ?_ ?_); rfl; intro w hSw; (go_simp <;> (try go_bits) <;> (repeat (first | rw [if_pos (by omega)] | rw [if_neg (by omega)])) <;> with_reducible rfl))); try simp only [Act.put, List.setIfInBounds_toArray, List.set_cons_zero, List.set_cons_succ])
            | ((with_reducible refine txt_u ?_ ?_); rfl; try simp only [Act.put, List.setIfInBounds_toArray, List.set_cons_zero, List.set_cons_succ])
            | ((with_reducible refine txt_l (v := ?_) ?_ ?_); (any_goals ((with_reducible refine Reads.mk ?_ ?_); rfl; (go_simp <;> (try go_bits) <;> (repeat (first | rw [if_pos (by omega)] | rw [if_neg (by omega)])) <;> with_reducible rfl))); try simp only [Act.put, List.setIfInBounds_toArray, List.set_cons_zero, List.set_cons_succ])
            | ((with_reducible refine txt_e ?_ ?_); rfl; intro K hK; go_simp; (first | (refine hK _ _ trivial ?_) | ((first | fail); dsimp only; refine hK _ _ trivial ?_)); clear hK K; try simp only [Act.put, List.setIfInBounds_toArray, List.set_cons_zero, List.set_cons_succ]))
          refine txt_nil ?_
          go_wp2
          go_ret
          exact ⟨⟨1, rfl, by rw [← HMV.out, ← HNV.out]; exact .inr (.inr ⟨val32_word_lt f3 g3 j hjN hjM he.out.symm (by rw [← HX.out, ← HY.out]; exact hlt), rfl⟩)⟩, hkp.out.drew.drew⟩
  · have i1 : ¬ (k : Int) = (k2 : Int) := by omega
    rcases Nat.lt_or_ge k k2 with hlt | hlt
    · have i2 : (k : Int) < (k2 : Int) := by omega
      go_wp2
      go_ret
      exact ⟨⟨-1, rfl, by rw [← HMV.out, ← HNV.out]; exact .inl ⟨val32_len_lt g3 hNb (by omega), rfl⟩⟩, Keeps.refl _ _⟩
    · have i2 : ¬ (k : Int) < (k2 : Int) := by omega
      go_wp2
      go_ret
      exact ⟨⟨1, rfl, by rw [← HMV.out, ← HNV.out]; exact .inr (.inr ⟨val32_len_lt f3 hMb (by omega), rfl⟩)⟩, Keeps.refl _ _⟩

end Go.Proofs.YtnfjmngchapdnaaGreatDoor
