import Derived.Test.YtnfjmngchapdnaaDoorMLShift
/- Knuth, 4.3.1, D: the guess of one digit; plain arithmetic. -/
namespace Go.Proofs.YtnfjmngchapdnaaDoor

/-- A guess that is too great by the two next words is above the quotient. -/
theorem kn_over {W K top u2 ul y1 y2 yl qh rh : Nat} (htop : top = qh * y1 + rh) (hul : ul < K) (hc : W * rh + u2 < qh * y2) :
    (top * W + u2) * K + ul < qh * ((y1 * W + y2) * K + yl) := by
  have h1 : qh * (y1 * W + y2) = qh * y1 * W + qh * y2 := by rw [Nat.mul_add, Nat.mul_assoc]
  have h2 : top * W = qh * y1 * W + W * rh := by rw [htop, Nat.add_mul, Nat.mul_comm rh W]
  have h3 : top * W + u2 + 1 ≤ qh * (y1 * W + y2) := by omega
  have h4 : (top * W + u2 + 1) * K ≤ qh * (y1 * W + y2) * K := Nat.mul_le_mul_right _ h3
  have h5 : qh * ((y1 * W + y2) * K + yl) = qh * (y1 * W + y2) * K + qh * yl := by rw [Nat.mul_add, Nat.mul_assoc]
  rw [Nat.add_mul, Nat.one_mul] at h4
  omega
/-- A guess that is not too great by the two next words is at most one above the quotient. -/
theorem kn_close {W K top u2 ul y1 y2 yl qh rh : Nat} (htop : top = qh * y1 + rh) (hyl : yl < K) (hc : qh * y2 ≤ W * rh + u2) (hq : qh < W) (hy : 0 < y1) :
    qh * ((y1 * W + y2) * K + yl) < ((top * W + u2) * K + ul) + ((y1 * W + y2) * K + yl) := by
  have h1 : qh * (y1 * W + y2) = qh * y1 * W + qh * y2 := by rw [Nat.mul_add, Nat.mul_assoc]
  have h2 : top * W = qh * y1 * W + W * rh := by rw [htop, Nat.add_mul, Nat.mul_comm rh W]
  have h3 : qh * (y1 * W + y2) ≤ top * W + u2 := by omega
  have h4 : qh * (y1 * W + y2) * K ≤ (top * W + u2) * K := Nat.mul_le_mul_right _ h3
  have h5 : qh * ((y1 * W + y2) * K + yl) = qh * (y1 * W + y2) * K + qh * yl := by rw [Nat.mul_add, Nat.mul_assoc]
  have h6 : qh * yl ≤ qh * K := Nat.mul_le_mul_left _ (by omega)
  have h7 : (qh + 1) * K ≤ W * K := Nat.mul_le_mul_right _ hq
  have h8 : 1 * W * K ≤ y1 * W * K := Nat.mul_le_mul_right _ (Nat.mul_le_mul_right _ hy)
  have h9 : (y1 * W + y2) * K = y1 * W * K + y2 * K := Nat.add_mul _ _ _
  rw [Nat.add_mul, Nat.one_mul] at h7
  rw [Nat.one_mul] at h8
  omega
/-- The first guess is not below the quotient. -/
theorem kn_init {W K top u2 ul y1 y2 yl : Nat} (hul : ul < K) (hu2 : u2 < W) (hy : 0 < y1) :
    (top * W + u2) * K + ul < (top / y1 + 1) * ((y1 * W + y2) * K + yl) := by
  have h1 : top + 1 ≤ (top / y1 + 1) * y1 := by
    have := Nat.lt_div_mul_add hy (a := top)
    rw [Nat.add_mul, Nat.one_mul]; omega
  have h2 : (top * W + u2 + 1) * K ≤ ((top + 1) * W) * K := Nat.mul_le_mul_right _ (by rw [Nat.add_mul, Nat.one_mul]; omega)
  have h3 : (top + 1) * W * K ≤ (top / y1 + 1) * y1 * W * K := Nat.mul_le_mul_right _ (Nat.mul_le_mul_right _ h1)
  have h4 : (top / y1 + 1) * ((y1 * W + y2) * K + yl) = (top / y1 + 1) * y1 * W * K + (top / y1 + 1) * (y2 * K + yl) := by
    rw [Nat.add_mul (y1 * W), Nat.add_assoc, Nat.mul_add]
    congr 1
    rw [Nat.mul_assoc, Nat.mul_assoc, Nat.mul_assoc]
  rw [Nat.add_mul, Nat.one_mul] at h2
  omega
/-- What is left behind the guess, or behind the guess less one. -/
theorem kn_rest {U Y q : Nat} (h1 : U < (q + 1) * Y) (h2 : q * Y < U + Y) : (q * Y ≤ U → U - q * Y = U % Y) ∧ (U < q * Y → U + Y - q * Y = U % Y) := by
  constructor
  · intro h
    have e : U = (U - q * Y) + Y * q := by rw [Nat.mul_comm Y]; omega
    have h3 : U - q * Y < Y := by rw [Nat.add_mul, Nat.one_mul] at h1; omega
    conv => rhs; rw [e, Nat.add_mul_mod_self_left]
    exact (Nat.mod_eq_of_lt h3).symm
  · intro h
    have hq : 0 < q := by
      rcases Nat.eq_zero_or_pos q with h0 | h0
      · subst h0; simp at h
      · exact h0
    obtain ⟨k, rfl⟩ : ∃ k, q = k + 1 := ⟨q - 1, by omega⟩
    rw [Nat.add_mul, Nat.one_mul] at h h2 ⊢
    have e : U = (U - k * Y) + Y * k := by rw [Nat.mul_comm Y]; omega
    have h3 : U - k * Y < Y := by omega
    have e2 : U + Y - (k * Y + Y) = U - k * Y := by omega
    rw [e2]
    conv => rhs; rw [e, Nat.add_mul_mod_self_left]
    exact (Nat.mod_eq_of_lt h3).symm

/-- One step of taking the guess's multiple away: V the number before, V' behind; b, b' what is borrowed. -/
theorem ms_step {W V V' V0 j i q T T' y cy c' b b' x z lo : Nat} (hV : V + W ^ j * (q * T) = V0 + W ^ (j + i) * (cy + b)) (hput : V' + W ^ (j + i) * x = V + W ^ (j + i) * z)
    (hp : q * y + cy = lo + W * c') (hz : z + lo + b = x + W * b') (hT : T' = T + W ^ i * y) : V' + W ^ j * (q * T') = V0 + W ^ (j + (i + 1)) * (c' + b') := by
  have h1 : W ^ j * (q * T') = W ^ j * (q * T) + W ^ (j + i) * (q * y) := by
    rw [hT, Nat.mul_add q, Nat.mul_add (W ^ j), Nat.pow_add]
    congr 1
    rw [Nat.mul_assoc]
    congr 1
    rw [← Nat.mul_assoc, ← Nat.mul_assoc, Nat.mul_comm q]
  have h2 : W ^ (j + (i + 1)) * (c' + b') = W ^ (j + i) * (W * c') + W ^ (j + i) * (W * b') := by
    rw [← Nat.add_assoc, Nat.pow_succ, Nat.mul_assoc, Nat.mul_add W, Nat.mul_add]
  have h3 : W ^ (j + i) * (z + lo + b) = W ^ (j + i) * (x + W * b') := by rw [hz]
  have h4 : W ^ (j + i) * (q * y + cy) = W ^ (j + i) * (lo + W * c') := by rw [hp]
  simp only [Nat.mul_add] at h3 h4 hV
  rw [h1, h2]
  omega
/-- The last word. -/
theorem ms_last {W V V' V0 j n q Y cy b g x z : Nat} (hV : V + W ^ j * (q * Y) = V0 + W ^ (j + n) * (cy + b)) (hput : V' + W ^ (j + n) * x = V + W ^ (j + n) * z) (hz : z + cy + b = x + W * g) :
    V' + W ^ j * (q * Y) = V0 + W ^ (j + n + 1) * g := by
  have h2 : W ^ (j + n + 1) * g = W ^ (j + n) * (W * g) := by rw [Nat.pow_succ, Nat.mul_assoc]
  have h3 : W ^ (j + n) * (z + cy + b) = W ^ (j + n) * (x + W * g) := by rw [hz]
  simp only [Nat.mul_add] at h3 hV
  rw [h2]
  omega
/-- One step of adding back. -/
theorem ab_step {W V V' V0 j i T T' y c c' x z : Nat} (hV : V + W ^ (j + i) * c = V0 + W ^ j * T) (hput : V' + W ^ (j + i) * x = V + W ^ (j + i) * z) (hz : c + (x + y) = z + W * c') (hT : T' = T + W ^ i * y) :
    V' + W ^ (j + (i + 1)) * c' = V0 + W ^ j * T' := by
  have h1 : W ^ j * T' = W ^ j * T + W ^ (j + i) * y := by rw [hT, Nat.mul_add, Nat.pow_add, Nat.mul_assoc]
  have h2 : W ^ (j + (i + 1)) * c' = W ^ (j + i) * (W * c') := by rw [← Nat.add_assoc, Nat.pow_succ, Nat.mul_assoc]
  have h3 : W ^ (j + i) * (c + (x + y)) = W ^ (j + i) * (z + W * c') := by rw [hz]
  simp only [Nat.mul_add] at h3
  rw [h1, h2]
  omega
/-- A number that is taken modulo a shifted multiple keeps its rest. -/
theorem kn_mod {V Y j W q low U r : Nat} (hV : V = low + W ^ j * U) (hr : q * Y ≤ U ∧ r = U - q * Y) : (low + W ^ j * r) % Y = V % Y := by
  have e : V = (low + W ^ j * r) + Y * (W ^ j * q) := by
    rw [hV, hr.2]
    have h1 : W ^ j * U = W ^ j * (U - q * Y) + W ^ j * (q * Y) := by rw [← Nat.mul_add]; congr 1; omega
    rw [h1, Nat.add_assoc]
    congr 2
    rw [← Nat.mul_assoc, Nat.mul_comm Y]
  rw [e, Nat.add_mul_mod_self_left]

end Go.Proofs.YtnfjmngchapdnaaDoor
