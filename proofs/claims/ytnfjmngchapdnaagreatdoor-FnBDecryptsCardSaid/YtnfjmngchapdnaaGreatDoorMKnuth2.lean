import Derived.Test.YtnfjmngchapdnaaGreatDoorMLTake
import Derived.Test.YtnfjmngchapdnaaGreatDoorMLProd
/- Knuth, 4.3.1, D: the words of one round; what is left behind it. -/
namespace Go.Proofs.YtnfjmngchapdnaaGreatDoor
open Go.RowKit

theorem u32s_get {L : List Nat} {i x : Nat} (h : L[i]? = some x) : (u32s L)[i]? = some (.int .u32 (x : Int)) := by simp [u32s, h]

/-- The top word of a number that is shifted to the top. -/
theorem kn_top {Y : List Nat} {x s m : Nat} (hlen : Y.length = m + 1) (hx : 0 < x) (hl : Lt32 Y) (hY : val32 Y = x * 2 ^ s) (hs : blen x + s = 32 * (m + 1)) : 2147483648 ≤ Y[m]'(by omega) := by
  have h1 := blen_le (n := x) (by omega)
  have h2 := val32_split Y m (by omega)
  have h3 := val32_take_lt hl m (by omega)
  rw [List.drop_of_length_le (by omega)] at h2
  simp only [val32, Nat.mul_zero, Nat.add_zero] at h2
  have h4 : 2 ^ (blen x - 1) * 2 ^ s ≤ x * 2 ^ s := Nat.mul_le_mul_right _ h1
  have hb := blen_pos (n := x) (by omega)
  rw [← Nat.pow_add, show blen x - 1 + s = 32 * m + 31 by omega, Nat.pow_add, ← W32_pow] at h4
  rcases Nat.lt_or_ge (Y[m]'(by omega)) 2147483648 with h | h
  · exfalso
    have h5 : W32 ^ m * (Y[m]'(by omega) + 1) ≤ W32 ^ m * 2147483648 := Nat.mul_le_mul_left _ h
    rw [Nat.mul_add, Nat.mul_one] at h5
    have h6 : (2 : Nat) ^ 31 = 2147483648 := by decide
    rw [h6] at h4
    omega
  · exact h

/-- The words that one round looks at. -/
theorem kn_words {Z Y : List Nat} {j m : Nat} (hY : Y.length = m + 2) (hlen : j + m + 2 < Z.length) (hZ : Lt32 Z) (hYl : Lt32 Y) (hb : val32 Z < W32 ^ (j + 1) * val32 Y) :
    ∃ xa xb xc y1 y2 ul yl U low, Z[j + m + 2]? = some xa ∧ Z[j + m + 1]? = some xb ∧ Z[j + m]? = some xc ∧ Y[m + 1]? = some y1 ∧ Y[m]? = some y2 ∧
      xa < 4294967296 ∧ xb < 4294967296 ∧ xc < 4294967296 ∧ y1 < 4294967296 ∧ y2 < 4294967296 ∧ low < W32 ^ j ∧ val32 Z = low + W32 ^ j * U ∧ U = ((xa * W32 + xb) * W32 + xc) * W32 ^ m + ul ∧ ul < W32 ^ m ∧
      val32 Y = (y1 * W32 + y2) * W32 ^ m + yl ∧ yl < W32 ^ m ∧ U < W32 * val32 Y ∧ xa ≤ y1 ∧ val32 (Z.drop (j + m + 3)) = 0 := by
  have hd1 := drop_val32 Z (j + m) (by omega)
  have hd2 := drop_val32 Z (j + m + 1) (by omega)
  have hd3 := drop_val32 Z (j + m + 2) (by omega)
  have hy1 := drop_val32 Y m (by omega)
  have hy2 := drop_val32 Y (m + 1) (by omega)
  rw [List.drop_of_length_le (by omega : Y.length ≤ m + 1 + 1)] at hy2
  simp only [val32, Nat.mul_zero, Nat.add_zero] at hy2
  have hsplit : ∀ (L : List Nat) (i : Nat), i ≤ L.length → val32 L = val32 (L.take i) + W32 ^ i * val32 (L.drop i) := fun L i hi => by
    conv => lhs; rw [← List.take_append_drop i L, val32_append, List.length_take, Nat.min_eq_left hi]
  have s1 := hsplit Z j (by omega)
  have s2 := hsplit (Z.drop j) m (by rw [List.length_drop]; omega)
  rw [List.drop_drop] at s2
  have s3 := hsplit Y m (by omega)
  have l1 := val32_take_lt hZ j (by omega)
  have l2 : val32 ((Z.drop j).take m) < W32 ^ m := val32_take_lt (fun x hx => hZ x (List.mem_of_mem_drop hx)) m (by rw [List.length_drop]; omega)
  have l3 := val32_take_lt hYl m (by omega)
  have hxa := hZ _ (List.getElem_mem (show j + m + 2 < Z.length by omega))
  have hxb := hZ _ (List.getElem_mem (show j + m + 1 < Z.length by omega))
  have hxc := hZ _ (List.getElem_mem (show j + m < Z.length by omega))
  have hyl1 := hYl _ (List.getElem_mem (show m + 1 < Y.length by omega))
  have hyl2 := hYl _ (List.getElem_mem (show m < Y.length by omega))
  obtain ⟨xa, exa⟩ : ∃ xa, xa = Z[j + m + 2] := ⟨_, rfl⟩
  obtain ⟨xb, exb⟩ : ∃ xb, xb = Z[j + m + 1] := ⟨_, rfl⟩
  obtain ⟨xc, exc⟩ : ∃ xc, xc = Z[j + m] := ⟨_, rfl⟩
  obtain ⟨y1, ey1⟩ : ∃ y1, y1 = Y[m + 1] := ⟨_, rfl⟩
  obtain ⟨y2, ey2⟩ : ∃ y2, y2 = Y[m] := ⟨_, rfl⟩
  obtain ⟨U, hU⟩ : ∃ U, U = val32 (Z.drop j) := ⟨_, rfl⟩
  obtain ⟨up, hup⟩ : ∃ up, up = val32 (Z.drop (j + m + 3)) := ⟨_, rfl⟩
  obtain ⟨ul, hul⟩ : ∃ ul, ul = val32 ((Z.drop j).take m) := ⟨_, rfl⟩
  obtain ⟨yl, hyl⟩ : ∃ yl, yl = val32 (Y.take m) := ⟨_, rfl⟩
  obtain ⟨low, hlow⟩ : ∃ low, low = val32 (Z.take j) := ⟨_, rfl⟩
  have e3 : j + m + 2 + 1 = j + m + 3 := rfl
  rw [e3, ← exa, ← hup] at hd3
  rw [show j + m + 1 + 1 = j + m + 2 from rfl, ← exb, hd3] at hd2
  rw [← exc, hd2] at hd1
  rw [← ey1] at hy2
  rw [← ey2, hy2] at hy1
  rw [← hU, ← hul, hd1] at s2
  rw [← hU, ← hlow] at s1
  rw [← hyl, hy1] at s3
  rw [← hul] at l2
  rw [← hyl] at l3
  rw [← hlow] at l1
  rw [← exa] at hxa
  rw [← exb] at hxb
  rw [← exc] at hxc
  rw [← ey1] at hyl1
  rw [← ey2] at hyl2
  have hWp : 0 < W32 ^ j := Nat.pow_pos (by decide)
  have hWm : 0 < W32 ^ m := Nat.pow_pos (by decide)
  have hUb : U < W32 * val32 Y := by
    rcases Nat.lt_or_ge U (W32 * val32 Y) with h | h
    · exact h
    · have h1 : W32 ^ j * (W32 * val32 Y) ≤ W32 ^ j * U := Nat.mul_le_mul_left _ h
      rw [← Nat.mul_assoc, ← Nat.pow_add_one] at h1
      omega
  have hW := W32_eq
  -- the words above are nought, and the top one is not above y1
  have hYb : val32 Y < (y1 + 1) * (W32 * W32 ^ m) := by
    have e1 : (y1 + 1) * (W32 * W32 ^ m) = W32 ^ m * (y2 + W32 * y1) + W32 ^ m * (W32 - y2) := by
      rw [← Nat.mul_add, show y2 + W32 * y1 + (W32 - y2) = W32 * (y1 + 1) by rw [Nat.mul_add]; omega]
      rw [Nat.mul_comm, Nat.mul_comm W32 (W32 ^ m), Nat.mul_assoc]
    have e2 : W32 ^ m * 1 ≤ W32 ^ m * (W32 - y2) := Nat.mul_le_mul_left _ (by omega)
    omega
  have hUa : xa * (W32 * (W32 * W32 ^ m)) + up * (W32 * (W32 * (W32 * W32 ^ m))) ≤ U := by
    have e1 : W32 ^ m * (xc + W32 * (xb + W32 * (xa + W32 * up))) = W32 ^ m * (xc + W32 * xb) + (xa * (W32 * (W32 * W32 ^ m)) + up * (W32 * (W32 * (W32 * W32 ^ m)))) := by grind
    omega
  have hkey : xa * (W32 * (W32 * W32 ^ m)) + up * (W32 * (W32 * (W32 * W32 ^ m))) < (y1 + 1) * (W32 * (W32 * W32 ^ m)) := by
    have e1 : W32 * val32 Y < W32 * ((y1 + 1) * (W32 * W32 ^ m)) := Nat.mul_lt_mul_of_pos_left hYb (by decide)
    rw [Nat.mul_left_comm] at e1
    omega
  have hP : 0 < W32 * (W32 * W32 ^ m) := Nat.mul_pos (by decide) (Nat.mul_pos (by decide) hWm)
  have hfin : xa + up * W32 < y1 + 1 := by
    refine Nat.lt_of_mul_lt_mul_right (a := W32 * (W32 * W32 ^ m)) ?_
    rw [Nat.add_mul, Nat.mul_assoc up]
    exact hkey
  have hup0 : up = 0 := by
    rcases Nat.eq_zero_or_pos up with h | h
    · exact h
    · have : 1 * W32 ≤ up * W32 := Nat.mul_le_mul_right _ h
      omega
  subst hup0
  refine ⟨xa, xb, xc, y1, y2, ul, yl, U, low, ?_, ?_, ?_, ?_, ?_, hxa, hxb, hxc, hyl1, hyl2, l1, s1, ?_, l2, ?_, l3, hUb, by omega, hup.symm⟩
  · rw [exa]; exact List.getElem?_eq_getElem _
  · rw [exb]; exact List.getElem?_eq_getElem _
  · rw [exc]; exact List.getElem?_eq_getElem _
  · rw [ey1]; exact List.getElem?_eq_getElem _
  · rw [ey2]; exact List.getElem?_eq_getElem _
  · rw [s2]; grind
  · rw [s3]; grind

/-- Behind the multiple that was taken away, nothing borrowed. -/
theorem kn_end0 {V' V0 low U Y P q : Nat} (h : V' + P * (q * Y) = V0) (h0 : V0 = low + P * U) (hlow : low < P) (hr : U < (q + 1) * Y) (hq : q * Y < U + Y) : V' = low + P * (U % Y) := by
  have h1 : q * Y ≤ U := by
    rcases Nat.lt_or_ge U (q * Y) with h | h
    · have h2 : P * (U + 1) ≤ P * (q * Y) := Nat.mul_le_mul_left _ h
      rw [Nat.mul_add, Nat.mul_one] at h2
      omega
    · exact h
  rw [← (kn_rest hr hq).1 h1, Nat.mul_sub]
  have h2 : P * (q * Y) ≤ P * U := Nat.mul_le_mul_left _ h1
  omega
/-- Behind it, something borrowed, and the other number added back. -/
theorem kn_end1 {V' V0 V2 V3 low U Y P Kn W q c x z co : Nat} (h : V' + P * (q * Y) = V0 + Kn * W) (h0 : V0 = low + P * U) (hlow : low < P) (hr : U < (q + 1) * Y) (hq : q * Y < U + Y) (hV' : V' < Kn * W)
    (h2 : V2 + Kn * c = V' + P * Y) (h3 : V3 + Kn * x = V2 + Kn * z) (hx : c + x = z + W * co) (h3l : V3 < Kn * W) (hco : co ≤ 1) (hY : P * Y ≤ Kn) (hK : Kn ≤ Kn * W) (hY0 : 0 < Y) : V3 = low + P * (U % Y) := by
  have h1 : U < q * Y := by
    rcases Nat.lt_or_ge U (q * Y) with h' | h'
    · exact h'
    · have h4 : P * (q * Y) ≤ P * U := Nat.mul_le_mul_left _ h'
      omega
  have h5 := (kn_rest hr hq).2 h1
  obtain ⟨R, hR⟩ : ∃ R, R = U % Y := ⟨_, rfl⟩
  have hRY : R < Y := by rw [hR]; exact Nat.mod_lt _ hY0
  rw [← hR] at h5 ⊢
  have h6 : P * U + P * Y = P * R + P * (q * Y) := by rw [← Nat.mul_add, ← Nat.mul_add]; congr 1; omega
  have h7 : Kn * c + Kn * x = Kn * z + Kn * W * co := by rw [← Nat.mul_add, hx, Nat.mul_add, Nat.mul_assoc]
  have h8 : P * (R + 1) ≤ P * Y := Nat.mul_le_mul_left _ hRY
  rw [Nat.mul_add, Nat.mul_one] at h8
  rcases (by omega : co = 0 ∨ co = 1) with e | e
  · subst e; rw [Nat.mul_zero] at h7; omega
  · subst e; rw [Nat.mul_one] at h7; omega
/-- Where the row starts. -/
theorem kn_start {X Yv a s m k : Nat} (hX : X = a * 2 ^ s) (ha : a < W32 ^ k) (hs : s < 32) (hm : m + 2 ≤ k) (hY : W32 ^ (m + 1) ≤ Yv) : X < W32 ^ (k + 2 - (m + 2)) * Yv := by
  have h1 : W32 ^ (k + 2 - (m + 2)) * W32 ^ (m + 1) ≤ W32 ^ (k + 2 - (m + 2)) * Yv := Nat.mul_le_mul_left _ hY
  rw [← Nat.pow_add, show k + 2 - (m + 2) + (m + 1) = k + 1 by omega] at h1
  have h2 : a * 2 ^ s < W32 ^ k * 2 ^ s := Nat.mul_lt_mul_of_pos_right ha (Nat.pow_pos (by omega))
  have h3 : W32 ^ k * 2 ^ s ≤ W32 ^ k * W32 := Nat.mul_le_mul_left _ (by
    have : (2 : Nat) ^ s ≤ 2 ^ 32 := Nat.pow_le_pow_right (by omega) (by omega)
    rw [W32_eq]; omega)
  rw [← Nat.pow_add_one] at h3
  omega
/-- One step of the shift back. -/
theorem back_step {T T' O O' i x s z low low' l0 : Nat} (h : 2 ^ s * O + l0 = T + W32 ^ i * low) (hT : T' = T + W32 ^ i * x) (hO : O' = O + W32 ^ i * z) (hz : 2 ^ s * z + low = x + W32 * low') : 2 ^ s * O' + l0 = T' + W32 ^ (i + 1) * low' := by
  have h1 : W32 ^ (i + 1) * low' = W32 ^ i * (W32 * low') := by rw [Nat.pow_succ, Nat.mul_assoc]
  have h2 : W32 ^ i * (2 ^ s * z + low) = W32 ^ i * (x + W32 * low') := by rw [hz]
  have h3 : 2 ^ s * O' = 2 ^ s * O + W32 ^ i * (2 ^ s * z) := by rw [hO, Nat.mul_add, Nat.mul_left_comm]
  rw [Nat.mul_add, Nat.mul_add] at h2
  omega

/-- The guess is left because what is left of it is too great. -/
theorem kn_break {W K t u2 ul y1 y2 yl p r U Y : Nat} (hU : U = (t * W + u2) * K + ul) (hY : Y = (y1 * W + y2) * K + yl) (hyl : yl < K) (ht : t = (p + 1) * y1 + r) (htb : t + 1 ≤ y1 * W + W) (hr : W ≤ r + y1) (hy2 : y2 < W) (hy1 : 0 < y1) (hul : ul < K) :
    p < W ∧ p * Y < U + Y := by
  have h1 : p < W := by
    rcases Nat.lt_or_ge p W with h | h
    · exact h
    · have h2 : W * y1 ≤ p * y1 := Nat.mul_le_mul_right _ h
      rw [Nat.add_mul, Nat.one_mul] at ht
      rw [Nat.mul_comm] at h2
      omega
  refine ⟨h1, ?_⟩
  rw [hU, hY]
  refine kn_close (rh := r + y1) (by rw [ht, Nat.add_mul]; omega) hyl ?_ h1 hy1
  have h3 : p * y2 ≤ W * W := Nat.mul_le_mul (by omega) (by omega)
  have h4 : W * W ≤ W * (r + y1) := Nat.mul_le_mul_left _ hr
  omega
theorem kn_first {t y1 : Nat} (h : t ≤ y1 * 4294967296 + 4294967295) (hy : 2147483648 ≤ y1) : t / y1 ≤ 4294967297 := by
  have h1 : t / y1 < 4294967298 := by
    rw [Nat.div_lt_iff_lt_mul (by omega)]
    omega
  omega
/-- One word of the taking away. -/
theorem sub_word (x lo b : Nat) (hx : x < 4294967296) (hlo : lo < 4294967296) (hb : b ≤ 1) : ∃ z b' : Nat, ((x : Int) - (lo : Int) + -(b : Int)) % 4294967296 = (z : Int) ∧ ((x : Int) - (lo : Int) + -(b : Int)) / 4294967296 = -(b' : Int) ∧ z < W32 ∧ b' ≤ 1 ∧ z + lo + b = x + W32 * b' := by
  have hW := W32_eq
  by_cases h : x < lo + b
  · exact ⟨x + 4294967296 - lo - b, 1, by omega, by omega, by omega, by omega, by omega⟩
  · exact ⟨x - lo - b, 0, by omega, by omega, by omega, by omega, by omega⟩

/-- One word of the shift back. -/
theorem back_word (x0 x1 s : Nat) (h0 : x0 < 4294967296) (h1 : x1 < 4294967296) (hs0 : 0 < s) (hs : s < 32) :
    ∃ sh z : Nat, ((x1 : Int) * 2 ^ (32 - s)) % 4294967296 = (sh : Int) ∧ Go.bits .or .u32 ((x0 / 2 ^ s : Nat) : Int) (sh : Int) = (z : Int) ∧ z < W32 ∧ 2 ^ s * z + x0 % 2 ^ s = x0 + W32 * (x1 % 2 ^ s) := by
  have hp : 2 ^ s * 2 ^ (32 - s) = 4294967296 := by rw [← Nat.pow_add, show s + (32 - s) = 32 by omega]
  have hm : x0 / 2 ^ s < 2 ^ (32 - s) := by
    rw [Nat.div_lt_iff_lt_mul (Nat.pow_pos (by omega)), Nat.mul_comm, hp]; exact h0
  obtain ⟨lo, hi, z, e1, e2, e3, e4, e5, e6, e7, e8⟩ := shl_parts x1 (x0 / 2 ^ s) (32 - s) h1 (by omega) hm
  refine ⟨lo, z, e1, by rw [or_comm32]; exact e2, e4, ?_⟩
  have e9 := e7 (by omega)
  rw [show 32 - (32 - s) = s by omega] at e9
  have d0 := Nat.mod_add_div x0 (2 ^ s)
  have d1 := Nat.mod_add_div x1 (2 ^ s)
  have h5 : 2 ^ s * (x1 * 2 ^ (32 - s)) = W32 * x1 := by rw [Nat.mul_left_comm, hp, W32_eq, Nat.mul_comm]
  rw [e5, Nat.mul_add] at h5
  have h6 : W32 * x1 = W32 * (x1 % 2 ^ s) + 2 ^ s * (W32 * hi) := by
    conv => lhs; rw [← d1]
    rw [Nat.mul_add, e9, Nat.mul_left_comm]
  rw [e3, Nat.mul_add]
  omega
theorem top_zero {L : List Nat} (hl : Lt32 L) {i : Nat} (hi : i ≤ L.length) (h0 : val32 (L.drop i) = 0) : val32 L < W32 ^ i := by
  have h1 : val32 L = val32 (L.take i) + W32 ^ i * val32 (L.drop i) := by
    conv => lhs; rw [← List.take_append_drop i L, val32_append, List.length_take, Nat.min_eq_left hi]
  rw [h0, Nat.mul_zero, Nat.add_zero] at h1
  rw [h1]
  exact val32_take_lt hl i hi
theorem drop_get {L M : List Nat} {i : Nat} (h : L.drop i = M.drop i) : L[i]? = M[i]? := by
  have h1 := congrArg (fun l => l[0]?) h
  simpa [List.getElem?_drop] using h1
theorem get_lt {L : List Nat} {i x : Nat} (hl : Lt32 L) (h : L[i]? = some x) : i < L.length ∧ x < 4294967296 := by
  rcases Nat.lt_or_ge i L.length with h1 | h1
  · rw [List.getElem?_eq_getElem h1] at h
    simp only [Option.some.injEq] at h
    rw [← h]
    exact ⟨h1, hl _ (List.getElem_mem _)⟩
  · rw [List.getElem?_eq_none h1] at h; simp at h
theorem take_succ_get {L : List Nat} {i x : Nat} (h : L[i]? = some x) : val32 (L.take (i + 1)) = val32 (L.take i) + W32 ^ i * x := by
  rcases Nat.lt_or_ge i L.length with h1 | h1
  · rw [List.getElem?_eq_getElem h1] at h
    simp only [Option.some.injEq] at h
    rw [val32_take_succ L i h1, h]
  · rw [List.getElem?_eq_none h1] at h; simp at h
theorem some_get {L : List Nat} {i : Nat} (h : i < L.length) : ∃ x, L[i]? = some x := ⟨L[i], List.getElem?_eq_getElem h⟩
theorem set_drop_get {L : List Nat} {i z : Nat} (h : i < L.length) : (L.set i z)[i]? = some z := List.getElem?_set_self h
theorem set_drop_above {L M : List Nat} {i z : Nat} (h : L.drop i = M.drop i) : (L.set i z).drop (i + 1) = M.drop (i + 1) := by
  rw [List.drop_set_of_lt (by omega), ← List.drop_drop, h, List.drop_drop]

/-- The row behind one round. -/
theorem kn_next {low P U Y V : Nat} (hV : V = low + P * U) (hlow : low < P) (hY : 0 < Y) : (low + P * (U % Y)) % Y = V % Y ∧ low + P * (U % Y) < P * Y := by
  constructor
  · rw [hV, Nat.add_mod, Nat.mul_mod, Nat.mod_mod, ← Nat.mul_mod, ← Nat.add_mod]
  · have h1 : P * (U % Y + 1) ≤ P * Y := Nat.mul_le_mul_left _ (Nat.mod_lt _ hY)
    rw [Nat.mul_add, Nat.mul_one] at h1
    omega
theorem back_end {O r x s : Nat} (h : 2 ^ s * O + r = x * 2 ^ s) (hr : r < 2 ^ s) : O = x := by
  have hp : 0 < 2 ^ s := Nat.pow_pos (by omega)
  have h1 := congrArg (fun t => t / 2 ^ s) h
  rw [Nat.mul_add_div hp, Nat.div_eq_of_lt hr, Nat.mul_div_cancel _ hp] at h1
  omega

end Go.Proofs.YtnfjmngchapdnaaGreatDoor

/- An append to a row of one's own: in place, or in a new block. -/
namespace Go.Proofs.YtnfjmngchapdnaaGreatDoor
open Go.RowKit

section
variable {P : Program} (w : World)
theorem run_append_place (base : Nat) (t ty e : TypeId) (i : TypeInfo) (z : Value) (size bytes : Nat) (ht : P.underlying t = some (.slice e)) (hi : P.info? e = some i) (hz : i.zero = some z)
    (hsize : i.size = size) (hby : i.bytes = bytes) (hzs : z.cells.size = size) (hsz : 0 < size)
    (g n cap : Nat) (xs : List Value) (hown : w.ownsRow base e size (.slice (some ⟨g, 0, none⟩) n cap) n xs)
    (a : Addr) (m c : Nat) (news : List Value) (hl : news.length = m * size) (hnews : ∀ j u, news[j]? = some u → w.cell? (a.add j) = some u) (h1 : ∀ u ∈ news, u.oneCell' = true)
    (h63 : n + m ≤ maxLen) (hbytes : (n + m) * bytes ≤ 140737488355328) (hbase : base ≤ w.heap.size) :
    ∃ g' cap' w', (Builtin.append_ #[t, t] ty #[.slice (some ⟨g, 0, none⟩) n cap, .slice (some a) m c]).run P w = .ok (.slice (some ⟨g', 0, none⟩) (n + m) cap') w' ∧
      w'.ownsRow base e size (.slice (some ⟨g', 0, none⟩) (n + m) cap') (n + m) (xs ++ news) ∧ w.grownBy w' (some g) ∧ (g' = g ∨ w.heap.size ≤ g') := by
  obtain ⟨v', w', hr, ho, hgr, _⟩ := run_append_own w base t ty e i z size bytes ht hi hz hsize hby hzs hsz _ n xs hown a m c news hl hnews h1 h63 hbytes hbase
  have hsmall : n + m ≤ 9223372036854775807 := by simp only [maxLen] at h63; omega
  subst hsize
  subst hby
  rcases hown.2 with ⟨h, _⟩ | ⟨g2, cap2, cur, h, hbg, hg, hnc, hcm, hcs, htake⟩
  · simp at h
  · simp only [Value.slice.injEq, Option.some.injEq, Addr.mk.injEq, and_true, true_and] at h
    obtain ⟨rfl, rfl⟩ := h
    by_cases hroom : n + m ≤ cap
    · have hfit : n * i.size + news.length ≤ cur.size := by rw [hl, hcs, ← Nat.add_mul]; exact Nat.mul_le_mul_right _ hroom
      have hr2 := run_append_room (P := P) w t ty e i ht hi g n cap cur hg a m c news hl hnews h1 hroom hfit
      have he := hr.symm.trans hr2
      injection he with e1 e2
      subst e1
      exact ⟨g, cap, w', hr, ho, hgr, .inl rfl⟩
    · have holds : ∀ j u, xs[j]? = some u → w.cell? ((⟨g, 0, none⟩ : Addr).add j) = some u := hown.cells (g := g) rfl
      have hr2 := run_append_grow (P := P) w t ty e i z ht hi hz ⟨g, 0, none⟩ n cap xs hown.1 holds a m c news hl hnews (by omega) (by omega) (growslice_fits (by omega) hbytes)
      have he := hr.symm.trans hr2
      injection he with e1 e2
      subst e1
      exact ⟨_, _, w', hr, ho, hgr, .inr (Nat.le_refl _)⟩
theorem wpList_append_place {ops : Array Oper} {rest : List Oper} {o : Oper} {ac : Act} {Q : Exit → Act → World → Prop} (hgd : o.guard = none) (s x : Operand) (t : TypeId)
    (ho : o.op = .call { callee := .builtin .append, args := #[s, x], argTypes := #[t, t] })
    (base : Nat) (e : TypeId) (i : TypeInfo) (z : Value) (size bytes : Nat) (ht : P.underlying t = some (.slice e)) (hi : P.info? e = some i) (hz : i.zero = some z)
    (hsize : i.size = size) (hby : i.bytes = bytes) (hzs : z.cells.size = size) (hsz : 0 < size)
    (g n cap : Nat) (xs : List Value) (hs : ac.eval s = .slice (some ⟨g, 0, none⟩) n cap) (hown : w.ownsRow base e size (.slice (some ⟨g, 0, none⟩) n cap) n xs)
    (ad : Addr) (m c : Nat) (news : List Value) (hx : ac.eval x = .slice (some ad) m c) (hl : news.length = m * size) (hnews : ∀ j u, news[j]? = some u → w.cell? (ad.add j) = some u) (h1 : ∀ u ∈ news, u.oneCell' = true)
    (h63 : n + m ≤ maxLen) (hbytes : (n + m) * bytes ≤ 140737488355328) (hbase : base ≤ w.heap.size)
    (h : ∀ g' cap' w', w'.ownsRow base e size (.slice (some ⟨g', 0, none⟩) (n + m) cap') (n + m) (xs ++ news) → w.grownBy w' (some g) → (g' = g ∨ w.heap.size ≤ g') → wpList P ops Q rest (ac.put o.dst (.slice (some ⟨g', 0, none⟩) (n + m) cap')) w') : wpList P ops Q (o :: rest) ac w :=
  wpList_plain hgd fun K hK => by
    obtain ⟨g', cap', w', hr, h2, h3, h4⟩ := run_append_place (P := P) w base t o.type e i z size bytes ht hi hz hsize hby hzs hsz g n cap xs hown ad m c news hl hnews h1 h63 hbytes hbase
    unfold Oper.wp execOp
    simp only [ho, resolve, invoke, builtin, Sem.run_bind, Sem.run_pure, Result.andThen_ok, List.map_toArray, List.map_cons, List.map_nil, hs, hx, hr]
    exact hK _ _ (h g' cap' w' h2 h3 h4)
end

end Go.Proofs.YtnfjmngchapdnaaGreatDoor
