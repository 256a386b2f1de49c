import Derived.Test.YtnfjmngchapdnaaGreatDoorMMath
/- Numbers: Fermat's little theorem; a test by Lucas and Lehmer that a number of Mersenne's is prime. -/
namespace Go.Proofs.YtnfjmngchapdnaaGreatDoor

/-- A prime number. -/
def Pr (p : Nat) : Prop := 1 < p ∧ ∀ q, q ∣ p → q = 1 ∨ q = p
theorem Pr.coprime {p a : Nat} (h : Pr p) (ha : ¬ p ∣ a) : Nat.Coprime a p := by
  rcases h.2 (Nat.gcd a p) (Nat.gcd_dvd_right a p) with e | e
  · exact e
  · exact absurd (e ▸ Nat.gcd_dvd_left a p) ha

theorem sub_length : ∀ (L M : List Nat), L.Nodup → (∀ x, x ∈ L → x ∈ M) → L.length ≤ M.length
  | [], _, _, _ => Nat.zero_le _
  | x :: L, M, hn, hs => by
    have hx : x ∈ M := hs x (by simp)
    have hn' := List.nodup_cons.1 hn
    have h := sub_length L (M.erase x) hn'.2 (fun y hy => (List.mem_erase_of_ne (fun e : y = x => hn'.1 (by rw [← e]; exact hy))).2 (hs y (by simp [hy])))
    rw [List.length_erase_of_mem hx] at h
    have := List.length_pos_of_mem hx
    simp only [List.length_cons]
    omega
theorem perm_of_sub : ∀ (L M : List Nat), L.Nodup → (∀ x, x ∈ L → x ∈ M) → M.length ≤ L.length → L.Perm M
  | [], M, _, _, h => by
    have : M = [] := List.length_eq_zero_iff.1 (by simpa using h)
    subst this
    exact .refl _
  | x :: L, M, hn, hs, hl => by
    have hx : x ∈ M := hs x (by simp)
    have hp := List.perm_cons_erase hx
    have hn' := List.nodup_cons.1 hn
    refine (List.Perm.cons x (perm_of_sub L (M.erase x) hn'.2 (fun y hy => (List.mem_erase_of_ne (fun e : y = x => hn'.1 (by rw [← e]; exact hy))).2 (hs y (by simp [hy]))) ?_)).trans hp.symm
    rw [List.length_erase_of_mem hx]
    simp only [List.length_cons] at hl
    omega

def prodL (L : List Nat) : Nat := L.foldr (fun a b => a * b) 1
theorem prodL_perm {L M : List Nat} (h : L.Perm M) : prodL L = prodL M := by
  induction h with
  | nil => rfl
  | cons x _ ih => simp only [prodL, List.foldr_cons] at *; rw [ih]
  | swap x y l => simp only [prodL, List.foldr_cons]; exact Nat.mul_left_comm _ _ _
  | trans _ _ h1 h2 => exact h1.trans h2
theorem prodL_map (a p : Nat) (L : List Nat) : prodL (L.map fun i => a * i % p) % p = a ^ L.length * prodL L % p := by
  induction L with
  | nil => simp [prodL]
  | cons x L ih =>
    have e : prodL ((x :: L).map fun i => a * i % p) = a * x % p * prodL (L.map fun i => a * i % p) := rfl
    have e2 : prodL (x :: L) = x * prodL L := rfl
    rw [e, e2, Nat.mul_mod, ih, Nat.mod_mod, ← Nat.mul_mod, List.length_cons, Nat.pow_succ]
    have e3 : a * x * (a ^ L.length * prodL L) = a ^ L.length * a * (x * prodL L) := by grind
    rw [e3]
theorem coprime_prodL {p : Nat} (h : Pr p) (L : List Nat) (hL : ∀ x, x ∈ L → 0 < x ∧ x < p) : Nat.Coprime (prodL L) p := by
  induction L with
  | nil => simp [prodL]
  | cons x L ih =>
    have h1 := hL x (by simp)
    have h2 : Nat.Coprime x p := h.coprime fun hd => by have := Nat.le_of_dvd h1.1 hd; omega
    exact Nat.Coprime.mul_left h2 (ih fun y hy => hL y (by simp [hy]))

theorem fermat {p a : Nat} (h : Pr p) (ha : ¬ p ∣ a) : a ^ (p - 1) % p = 1 := by
  have hp := h.1
  have hc := h.coprime ha
  obtain ⟨R, hR⟩ : ∃ R, R = List.range' 1 (p - 1) := ⟨_, rfl⟩
  have hm : ∀ x, x ∈ R ↔ 0 < x ∧ x < p := fun x => by rw [hR, List.mem_range'_1]; omega
  have hlen : R.length = p - 1 := by rw [hR, List.length_range']
  have hRn : R.Nodup := by rw [hR]; exact List.nodup_range'
  have hsub : ∀ x, x ∈ R.map (fun i => a * i % p) → x ∈ R := by
    intro x hx
    obtain ⟨i, hi, rfl⟩ := List.mem_map.1 hx
    have h1 := (hm i).1 hi
    refine (hm _).2 ⟨?_, Nat.mod_lt _ (by omega)⟩
    rcases Nat.eq_zero_or_pos (a * i % p) with h0 | h0
    · have h2 := hc.symm.dvd_of_dvd_mul_left (Nat.dvd_of_mod_eq_zero h0)
      have := Nat.le_of_dvd h1.1 h2
      omega
    · exact h0
  have key : ∀ i j, i ∈ R → j ∈ R → i < j → a * i % p ≠ a * j % p := by
    intro i j hi hj hij he
    have h1 := (hm i).1 hi
    have h2 := (hm j).1 hj
    have h3 := Nat.sub_mod_eq_zero_of_mod_eq he.symm
    rw [← Nat.mul_sub] at h3
    have h4 := hc.symm.dvd_of_dvd_mul_left (Nat.dvd_of_mod_eq_zero h3)
    have := Nat.le_of_dvd (by omega) h4
    omega
  have hn : (R.map (fun i => a * i % p)).Nodup := by
    unfold List.Nodup
    rw [List.pairwise_map]
    refine List.Pairwise.imp_of_mem ?_ hRn
    intro i j hi hj hne
    rcases Nat.lt_or_gt_of_ne hne with h1 | h1
    · exact key i j hi hj h1
    · exact fun e => key j i hj hi h1 e.symm
  have hperm := perm_of_sub _ R hn hsub (by simp)
  have h1 := prodL_map a p R
  rw [prodL_perm hperm, hlen] at h1
  have h2 := Nat.sub_mod_eq_zero_of_mod_eq h1.symm
  have hcp : Nat.Coprime (prodL R) p := coprime_prodL h R fun x hx => (hm x).1 hx
  have h3 : a ^ (p - 1) * prodL R - prodL R = prodL R * (a ^ (p - 1) - 1) := by
    rw [Nat.mul_sub, Nat.mul_one, Nat.mul_comm]
  rw [h3] at h2
  obtain ⟨k, hk⟩ := hcp.symm.dvd_of_dvd_mul_left (Nat.dvd_of_mod_eq_zero h2)
  have hpos : 0 < a ^ (p - 1) := by
    rcases Nat.eq_zero_or_pos a with h0 | h0
    · subst h0; exact absurd (Nat.dvd_zero p) ha
    · exact Nat.pow_pos h0
  have h4 : a ^ (p - 1) = 1 + p * k := by omega
  rw [h4, Nat.add_mul_mod_self_left, Nat.mod_eq_of_lt hp]
theorem dvd_pow' (c : Nat) {d : Nat} (h : 0 < d) : c ∣ c ^ d := by
  have h1 := Nat.pow_dvd_pow c (show 1 ≤ d from h)
  rwa [Nat.pow_one] at h1
/-- A power, modulo a prime, by the exponent modulo the prime less 1. -/
theorem pow_exp {p c d e : Nat} (h : Pr p) (hd : 0 < d) (he : 0 < e) (hde : d % (p - 1) = e % (p - 1)) : c ^ d % p = c ^ e % p := by
  by_cases hc : p ∣ c
  · rw [Nat.mod_eq_zero_of_dvd (Nat.dvd_trans hc (dvd_pow' c (by omega))), Nat.mod_eq_zero_of_dvd (Nat.dvd_trans hc (dvd_pow' c (by omega)))]
  · have hf := fermat h hc
    have key : ∀ d, c ^ d % p = c ^ (d % (p - 1)) % p := by
      intro d
      conv => lhs; rw [← Nat.div_add_mod d (p - 1), Nat.pow_add, Nat.pow_mul, Nat.mul_mod, Nat.pow_mod, hf, Nat.one_pow, ← Nat.mul_mod, Nat.one_mul]
    rw [key d, key e, hde]

/-- The powers of 2 + √3. -/
def lP : Nat → Nat × Nat
  | 0 => (1, 0)
  | k + 1 => (2 * (lP k).1 + 3 * (lP k).2, (lP k).1 + 2 * (lP k).2)
def lA (k : Nat) : Nat := (lP k).1
def lB (k : Nat) : Nat := (lP k).2
theorem lA_zero : lA 0 = 1 := rfl
theorem lB_zero : lB 0 = 0 := rfl
theorem lA_succ (k : Nat) : lA (k + 1) = 2 * lA k + 3 * lB k := rfl
theorem lB_succ (k : Nat) : lB (k + 1) = lA k + 2 * lB k := rfl
theorem l_add (m n : Nat) : lA (m + n) = lA m * lA n + 3 * (lB m * lB n) ∧ lB (m + n) = lA m * lB n + lB m * lA n := by
  induction n with
  | zero => simp [lA_zero, lB_zero]
  | succ n ih =>
    rw [← Nat.add_assoc, lA_succ, lB_succ, lA_succ, lB_succ, ih.1, ih.2]
    constructor <;> grind
theorem l_norm (n : Nat) : lA n * lA n = 3 * (lB n * lB n) + 1 := by
  induction n with
  | zero => rfl
  | succ n ih =>
    rw [lA_succ, lB_succ]
    grind
theorem lA_twice (n : Nat) : lA (2 * n) + 1 = 2 * (lA n * lA n) := by
  have h := (l_add n n).1
  have h2 := l_norm n
  rw [← Nat.two_mul] at h
  omega
theorem lB_twice (n : Nat) : lB (2 * n) = 2 * (lA n * lB n) := by
  have h := (l_add n n).2
  rw [← Nat.two_mul, Nat.mul_comm (lB n)] at h
  omega

/-- The row of Lucas and Lehmer. -/
def llr (m : Nat) : Nat → Nat → Nat
  | s, 0 => s
  | s, k + 1 => llr m ((s * s + (m - 2)) % m) k
theorem llr_add (m : Nat) : ∀ (j k s : Nat), llr m s (j + k) = llr m (llr m s j) k
  | 0, k, s => by rw [Nat.zero_add]; rfl
  | j + 1, k, s => by
    rw [Nat.add_right_comm]
    exact llr_add m j k _
theorem llr_val (m : Nat) (hm : 2 ≤ m) : ∀ (k i s : Nat), s % m = 2 * lA (2 ^ i) % m → llr m s k % m = 2 * lA (2 ^ (i + k)) % m
  | 0, i, s, h => h
  | k + 1, i, s, h => by
    have e : i + (k + 1) = (i + 1) + k := by omega
    rw [e]
    refine llr_val m hm k (i + 1) _ ?_
    rw [Nat.mod_mod, Nat.add_mod, Nat.mul_mod, h, ← Nat.mul_mod, ← Nat.add_mod]
    have h2 := lA_twice (2 ^ i)
    have e2 : 2 * 2 ^ i = 2 ^ (i + 1) := by rw [Nat.pow_succ, Nat.mul_comm]
    rw [e2] at h2
    have e3 : 2 * lA (2 ^ i) * (2 * lA (2 ^ i)) = 4 * (lA (2 ^ i) * lA (2 ^ i)) := by grind
    have e4 : 2 * lA (2 ^ i) * (2 * lA (2 ^ i)) + (m - 2) = 2 * lA (2 ^ (i + 1)) + m := by omega
    rw [e4, Nat.add_mod_right]

/-- The same power, modulo r. -/
def Same (r i j : Nat) : Prop := (r : Int) ∣ (lA j : Int) - lA i ∧ (r : Int) ∣ (lB j : Int) - lB i
theorem Same.of_mod {r i j : Nat} (h1 : lA i % r = lA j % r) (h2 : lB i % r = lB j % r) : Same r i j := by
  constructor
  · exact Int.dvd_of_emod_eq_zero (Int.emod_eq_emod_iff_emod_sub_eq_zero.1 (by omega))
  · exact Int.dvd_of_emod_eq_zero (Int.emod_eq_emod_iff_emod_sub_eq_zero.1 (by omega))
theorem Same.back {r t : Nat} : ∀ i, Same r i (i + t) → Same r 0 t
  | 0, h => by rw [Nat.zero_add] at h; exact h
  | i + 1, ⟨⟨c, h1⟩, ⟨d, h2⟩⟩ => by
    refine Same.back i ⟨⟨2 * c - 3 * d, ?_⟩, ⟨2 * d - c, ?_⟩⟩
    · rw [Nat.add_right_comm, lA_succ, lA_succ] at h1
      rw [Nat.add_right_comm, lB_succ, lB_succ] at h2
      rw [Int.mul_sub, Int.mul_left_comm, Int.mul_left_comm (r : Int) 3]
      omega
    · rw [Nat.add_right_comm, lA_succ, lA_succ] at h1
      rw [Nat.add_right_comm, lB_succ, lB_succ] at h2
      rw [Int.mul_sub, Int.mul_left_comm]
      omega
/-- The power n is 1 (z = 1), or less 1 (z = -1), modulo r. -/
def Is (r : Nat) (z : Int) (n : Nat) : Prop := (r : Int) ∣ (lA n : Int) - z ∧ (r : Int) ∣ (lB n : Int)
theorem Is.add {r m n : Nat} {y z : Int} (h : Is r y m) (k : Is r z n) : Is r (y * z) (m + n) := by
  obtain ⟨⟨a, ha⟩, ⟨b, hb⟩⟩ := h
  obtain ⟨⟨c, hc⟩, ⟨d, hd⟩⟩ := k
  have e1 : (lA m : Int) = y + r * a := by omega
  have e2 : (lA n : Int) = z + r * c := by omega
  constructor
  · rw [(l_add m n).1]
    refine ⟨a * z + y * c + r * a * c + 3 * (b * (r * d)), ?_⟩
    simp only [Int.natCast_add, Int.natCast_mul]
    rw [e1, e2, hb, hd]
    grind
  · rw [(l_add m n).2]
    refine ⟨(y + r * a) * d + b * (z + r * c), ?_⟩
    simp only [Int.natCast_add, Int.natCast_mul]
    rw [e1, e2, hb, hd]
    grind
theorem Is.zero (r : Nat) : Is r 1 0 := ⟨⟨0, by rw [lA_zero]; simp⟩, ⟨0, by rw [lB_zero]; simp⟩⟩
theorem Is.mul {r n : Nat} (h : Is r 1 n) : ∀ k, Is r 1 (n * k)
  | 0 => Is.zero r
  | k + 1 => by
    have h2 := (Is.mul h k).add h
    rw [Nat.mul_succ]
    exact h2

theorem odd_part : ∀ (k t : Nat), t ≤ k → 0 < t → ∃ s u, t = 2 ^ s * (2 * u + 1)
  | 0, t, h, h0 => by omega
  | k + 1, t, h, h0 => by
    rcases Nat.mod_two_eq_zero_or_one t with h2 | h2
    · obtain ⟨s, u, e⟩ := odd_part k (t / 2) (by omega) (by omega)
      refine ⟨s + 1, u, ?_⟩
      rw [Nat.pow_succ, Nat.mul_comm (2 ^ s) 2, Nat.mul_assoc, ← e]
      omega
    · exact ⟨0, t / 2, by omega⟩

theorem ll_no {p r : Nat} (hp : 2 ≤ p) (hr : r ∣ 2 ^ p - 1) (h1 : 1 < r) (hsq : r * r < 2 ^ p) (h0 : r ∣ 2 * lA (2 ^ (p - 2))) : False := by
  obtain ⟨j, rfl⟩ : ∃ j, p = j + 2 := ⟨p - 2, by omega⟩
  rw [Nat.add_sub_cancel] at h0
  have hpos : 0 < 2 ^ j := Nat.pow_pos (by omega)
  have e4 : 2 ^ (j + 2) = 4 * 2 ^ j := by rw [Nat.pow_add, Nat.mul_comm]
  have e2 : 2 ^ (j + 1) = 2 * 2 ^ j := by rw [Nat.pow_succ, Nat.mul_comm]
  have hodd : r % 2 = 1 := by
    obtain ⟨k, hk⟩ := hr
    rcases Nat.mod_two_eq_zero_or_one r with h | h
    · obtain ⟨r', hr'⟩ : ∃ r', r = 2 * r' := ⟨r / 2, by omega⟩
      rw [hr', Nat.mul_assoc] at hk
      omega
    · exact h
  have hA : r ∣ lA (2 ^ j) := by
    refine Nat.Coprime.dvd_of_dvd_mul_left ?_ h0
    have : Nat.gcd r 2 = 1 := by
      have hd := Nat.gcd_dvd_left r 2
      have hd2 := Nat.gcd_dvd_right r 2
      have hle := Nat.le_of_dvd (by omega) hd2
      have hz : Nat.gcd r 2 ≠ 0 := fun e => by rw [Nat.gcd_eq_zero_iff] at e; omega
      rcases (by omega : Nat.gcd r 2 = 1 ∨ Nat.gcd r 2 = 2) with e | e
      · exact e
      · rw [e] at hd
        obtain ⟨k, hk⟩ := hd
        omega
    exact this
  obtain ⟨c, hc⟩ := hA
  have hN : Is r (-1) (2 ^ (j + 1)) := by
    have g1 := lA_twice (2 ^ j)
    have g2 := lB_twice (2 ^ j)
    rw [← e2] at g1 g2
    constructor
    · refine ⟨2 * c * (lA (2 ^ j)), ?_⟩
      have g3 : (lA (2 ^ (j + 1)) : Int) + 1 = 2 * ((lA (2 ^ j) : Int) * lA (2 ^ j)) := by exact_mod_cast g1
      have g4 : (lA (2 ^ j) : Int) = r * c := by exact_mod_cast hc
      rw [g4] at g3 ⊢
      grind
    · refine ⟨2 * c * (lB (2 ^ j)), ?_⟩
      have g3 : (lB (2 ^ (j + 1)) : Int) = 2 * ((lA (2 ^ j) : Int) * lB (2 ^ j)) := by exact_mod_cast g2
      have g4 : (lA (2 ^ j) : Int) = r * c := by exact_mod_cast hc
      rw [g4] at g3
      grind
  have hP : Is r 1 (2 ^ (j + 2)) := by
    have h := hN.add hN
    rw [show 2 ^ (j + 1) + 2 ^ (j + 1) = 2 ^ (j + 2) by omega] at h
    exact h
  by_cases hex : ∃ i t, 0 < t ∧ t < 2 ^ (j + 2) ∧ Same r i (i + t)
  · obtain ⟨i, t, ht0, ht, hs⟩ := hex
    have hs0 := hs.back
    have hPt : Is r 1 t := by
      obtain ⟨g1, g2⟩ := hs0
      rw [lA_zero] at g1
      rw [lB_zero] at g2
      exact ⟨by simpa using g1, by simpa using g2⟩
    obtain ⟨s, u, hu⟩ := odd_part t t (Nat.le_refl _) ht0
    have hsj : s < j + 2 := by
      rcases Nat.lt_or_ge s (j + 2) with h | h
      · exact h
      · have h2 : 2 ^ (j + 2) ≤ 2 ^ s := Nat.pow_le_pow_right (by omega) h
        have h3 : 2 ^ s * 1 ≤ 2 ^ s * (2 * u + 1) := Nat.mul_le_mul_left _ (by omega)
        omega
    have h5 := hPt.mul (2 ^ (j + 1 - s))
    have e5 : t * 2 ^ (j + 1 - s) = 2 ^ (j + 1) + 2 ^ (j + 2) * u := by
      have e6 : 2 ^ s * 2 ^ (j + 1 - s) = 2 ^ (j + 1) := by rw [← Nat.pow_add]; congr 1; omega
      have e7 : t * 2 ^ (j + 1 - s) = 2 ^ (j + 1) * (2 * u + 1) := by rw [hu, Nat.mul_right_comm, e6]
      rw [e7, Nat.mul_add, Nat.mul_one, Nat.add_comm]
      congr 1
      rw [← Nat.mul_assoc, Nat.pow_succ 2 (j + 1)]
    rw [e5] at h5
    have h6 := hN.add (hP.mul u)
    obtain ⟨⟨x, hx⟩, _⟩ := h5
    obtain ⟨⟨y, hy⟩, _⟩ := h6
    have h7 : (r : Int) ∣ 2 := ⟨y - x, by rw [Int.mul_sub]; omega⟩
    have h8 : r ∣ 2 := by exact_mod_cast h7
    have := Nat.le_of_dvd (by omega) h8
    omega
  · have hn : ((List.range (2 ^ (j + 2))).map (fun k => (lA k % r) * r + lB k % r)).Nodup := by
      unfold List.Nodup
      rw [List.pairwise_map]
      have hlt := List.pairwise_lt_range (n := 2 ^ (j + 2))
      refine List.Pairwise.imp_of_mem ?_ hlt
      intro a b ha hb hab he
      rw [List.mem_range] at ha hb
      refine hex ⟨a, b - a, by omega, by omega, ?_⟩
      rw [show a + (b - a) = b by omega]
      have l1 := Nat.mod_lt (lB a) (show 0 < r by omega)
      have l2 := Nat.mod_lt (lB b) (show 0 < r by omega)
      have q1 : (lA a % r * r + lB a % r) / r = lA a % r := by rw [Nat.mul_comm, Nat.mul_add_div (by omega), Nat.div_eq_of_lt l1]; omega
      have q2 : (lA b % r * r + lB b % r) / r = lA b % r := by rw [Nat.mul_comm, Nat.mul_add_div (by omega), Nat.div_eq_of_lt l2]; omega
      have e1 : lA a % r = lA b % r := by rw [← q1, ← q2, he]
      rw [e1] at he
      exact Same.of_mod e1 (by omega)
    have hlen := sub_length _ (List.range (r * r)) hn (by
      intro x hx
      obtain ⟨k, _, rfl⟩ := List.mem_map.1 hx
      rw [List.mem_range]
      have l1 := Nat.mod_lt (lB k) (show 0 < r by omega)
      have l2 : (lA k % r + 1) * r ≤ r * r := Nat.mul_le_mul_right _ (Nat.mod_lt (lA k) (show 0 < r by omega))
      rw [Nat.add_mul, Nat.one_mul] at l2
      omega)
    simp at hlen
    omega

theorem lucas_lehmer {p m : Nat} (hp : 2 ≤ p) (hm : m = 2 ^ p - 1) (h : llr m 4 (p - 2) = 0) : Pr m := by
  have h4 : 2 ^ 2 ≤ 2 ^ p := Nat.pow_le_pow_right (by omega) hp
  have hd : m ∣ 2 * lA (2 ^ (p - 2)) := by
    have h1 := llr_val m (by omega) (p - 2) 0 4 rfl
    rw [h, Nat.zero_mod, Nat.zero_add] at h1
    exact Nat.dvd_of_mod_eq_zero h1.symm
  refine ⟨by omega, fun q hq => ?_⟩
  by_cases h1 : q = 1
  · exact .inl h1
  by_cases h2 : q = m
  · exact .inr h2
  exfalso
  obtain ⟨k, hk⟩ := hq
  have hm0 : 0 < m := by omega
  have hq0 : 0 < q := Nat.pos_of_ne_zero fun e => by rw [e, Nat.zero_mul] at hk; omega
  have hk0 : 0 < k := Nat.pos_of_ne_zero fun e => by rw [e, Nat.mul_zero] at hk; omega
  have hk1 : k ≠ 1 := fun e => by rw [e, Nat.mul_one] at hk; exact h2 hk.symm
  rcases Nat.le_total q k with hle | hle
  · refine ll_no (r := q) hp (by rw [← hm]; exact ⟨k, hk⟩) (by omega) ?_ (Nat.dvd_trans ⟨k, hk⟩ hd)
    have : q * q ≤ q * k := Nat.mul_le_mul_left _ hle
    omega
  · refine ll_no (r := k) hp (by rw [← hm, hk]; exact Nat.dvd_mul_left ..) (by omega) ?_ (Nat.dvd_trans (by rw [hk]; exact Nat.dvd_mul_left ..) hd)
    have : k * k ≤ q * k := Nat.mul_le_mul_right _ hle
    omega

end Go.Proofs.YtnfjmngchapdnaaGreatDoor

/- Three primes of Mersenne's. -/
namespace Go.Proofs.YtnfjmngchapdnaaGreatDoor

theorem ll521_0 : llr (2 ^ 521 - 1) 4 128 = 1251640937360170574835675552442128388966183303286569363382001924964929784345542195828155292008968555482428307460718066784842659563481069123169371992092202025 := by decide +kernel
theorem ll521_1 : llr (2 ^ 521 - 1) 1251640937360170574835675552442128388966183303286569363382001924964929784345542195828155292008968555482428307460718066784842659563481069123169371992092202025 128 = 2137830791116125305075460441476661708248127353755929180941241412318072048118350273593985638230928744260248015454941549639324572384256816113592364486643038367 := by decide +kernel
theorem ll521_2 : llr (2 ^ 521 - 1) 2137830791116125305075460441476661708248127353755929180941241412318072048118350273593985638230928744260248015454941549639324572384256816113592364486643038367 128 = 5822970211541068722058549023969783700270201883130212703197468676178869098613441177667665337996064669193756060934928438290497331096653438197555278092913397589 := by decide +kernel
theorem ll521_3 : llr (2 ^ 521 - 1) 5822970211541068722058549023969783700270201883130212703197468676178869098613441177667665337996064669193756060934928438290497331096653438197555278092913397589 128 = 1069540371221863335072101779971448749766778154996921891889730085602889035227912086329139856233098174232142895744621038562786528149911357493821898772082214187 := by decide +kernel
theorem ll521_4 : llr (2 ^ 521 - 1) 1069540371221863335072101779971448749766778154996921891889730085602889035227912086329139856233098174232142895744621038562786528149911357493821898772082214187 7 = 0 := by decide +kernel
theorem pr521 : Pr (2 ^ 521 - 1) := by
  refine lucas_lehmer (p := 521) (by omega) rfl ?_
  rw [show 521 - 2 = 128 + (128 + (128 + (128 + (7)))) from rfl]
  rw [llr_add, ll521_0, llr_add, ll521_1, llr_add, ll521_2, llr_add, ll521_3, ll521_4]

theorem ll607_0 : llr (2 ^ 607 - 1) 4 128 = 326958635722415728344823183519905128143892015370917541525085328313638711999986405799603063460191736071329585933315078632285285365048883985488978259760226144322629896314018491844051143 := by decide +kernel
theorem ll607_1 : llr (2 ^ 607 - 1) 326958635722415728344823183519905128143892015370917541525085328313638711999986405799603063460191736071329585933315078632285285365048883985488978259760226144322629896314018491844051143 128 = 211538189007132065778812699321692938503618133936491664808607730118648470698394934798387919666096764420172173479968190129037431559134168194894972276510439557255698224600220450010591983 := by decide +kernel
theorem ll607_2 : llr (2 ^ 607 - 1) 211538189007132065778812699321692938503618133936491664808607730118648470698394934798387919666096764420172173479968190129037431559134168194894972276510439557255698224600220450010591983 128 = 60221516001452310036275071300042469942108264691425571971916628188275904797336759814243925327549015890105912784008774798836436235576952707896087222715010522926201671226724601707596488 := by decide +kernel
theorem ll607_3 : llr (2 ^ 607 - 1) 60221516001452310036275071300042469942108264691425571971916628188275904797336759814243925327549015890105912784008774798836436235576952707896087222715010522926201671226724601707596488 128 = 467650105069503718401703471710209065790274701176709736259995422259834412496779644362865773284031070100622407820318758163794148622789241841631695387871364551300032120527296607868430780 := by decide +kernel
theorem ll607_4 : llr (2 ^ 607 - 1) 467650105069503718401703471710209065790274701176709736259995422259834412496779644362865773284031070100622407820318758163794148622789241841631695387871364551300032120527296607868430780 93 = 0 := by decide +kernel
theorem pr607 : Pr (2 ^ 607 - 1) := by
  refine lucas_lehmer (p := 607) (by omega) rfl ?_
  rw [show 607 - 2 = 128 + (128 + (128 + (128 + (93)))) from rfl]
  rw [llr_add, ll607_0, llr_add, ll607_1, llr_add, ll607_2, llr_add, ll607_3, ll607_4]

theorem ll1279_0 : llr (2 ^ 1279 - 1) 4 128 = 7948456300851017322347736032699522669078186332416935177296936764019068684519678220193194540742411077873386334774776523267225328670098575299919114435912568672098156607933855752950631178391507040968980729476183233361409844983331402169095672416423544163136925618294113032197182640231426416672492531557159439688692809444149147920527827648535712778270577182083946204868616912784425196717608 := by decide +kernel
theorem ll1279_1 : llr (2 ^ 1279 - 1) 7948456300851017322347736032699522669078186332416935177296936764019068684519678220193194540742411077873386334774776523267225328670098575299919114435912568672098156607933855752950631178391507040968980729476183233361409844983331402169095672416423544163136925618294113032197182640231426416672492531557159439688692809444149147920527827648535712778270577182083946204868616912784425196717608 128 = 8477709002973064999272553572832767229408855305055686821950465841935385142727273544535700422987415345727664117979754618938241046726195802567935760152700734864716815274207298528169510237119080053303398025796710906869681162249411586480069580910182438226266606555598489228881662540519086801512932294342513282064080072952919183330748824157791415539054347963278376187880635805761954016034715 := by decide +kernel
theorem ll1279_2 : llr (2 ^ 1279 - 1) 8477709002973064999272553572832767229408855305055686821950465841935385142727273544535700422987415345727664117979754618938241046726195802567935760152700734864716815274207298528169510237119080053303398025796710906869681162249411586480069580910182438226266606555598489228881662540519086801512932294342513282064080072952919183330748824157791415539054347963278376187880635805761954016034715 128 = 5797584604785156396277855031837840552756314241846851337085096689580155835572298191632119226041255045658876458876643882692027758174733399266846423446199489246347742762071939706122851075902365949558726560390408310780085040954026033917246721072965515067611705409913552144162727611615667008608879889411361277352683860938286616222635697679567321453387865629491716296143720271638925295889958 := by decide +kernel
theorem ll1279_3 : llr (2 ^ 1279 - 1) 5797584604785156396277855031837840552756314241846851337085096689580155835572298191632119226041255045658876458876643882692027758174733399266846423446199489246347742762071939706122851075902365949558726560390408310780085040954026033917246721072965515067611705409913552144162727611615667008608879889411361277352683860938286616222635697679567321453387865629491716296143720271638925295889958 128 = 2495596387566945507185579517573700539153455433364204548330133513968412655658736156167560853407966675771169291620139179800488261044850210986822796627173173044290369817043185449113890192533324169477644310030327717019943447931839383850173932941880426142863889067627126976057410667047768663719385884002745146793243311397334040338954028094145136456740015623814703515353775117632430993329030 := by decide +kernel
theorem ll1279_4 : llr (2 ^ 1279 - 1) 2495596387566945507185579517573700539153455433364204548330133513968412655658736156167560853407966675771169291620139179800488261044850210986822796627173173044290369817043185449113890192533324169477644310030327717019943447931839383850173932941880426142863889067627126976057410667047768663719385884002745146793243311397334040338954028094145136456740015623814703515353775117632430993329030 128 = 6553598078293676063241687832801399409762496695252974670719192282347760587043328477870246001388629338462362305075633117851447588678861006924392058702315073370856359384422810065704175379779035447841407784602040358884147228076924727271902822116120208800067687411186326898802252160260064089627326115597546029539372224831389873351488976318377080891844261198202490201184208061752108071657439 := by decide +kernel
theorem ll1279_5 : llr (2 ^ 1279 - 1) 6553598078293676063241687832801399409762496695252974670719192282347760587043328477870246001388629338462362305075633117851447588678861006924392058702315073370856359384422810065704175379779035447841407784602040358884147228076924727271902822116120208800067687411186326898802252160260064089627326115597546029539372224831389873351488976318377080891844261198202490201184208061752108071657439 128 = 5553702771248361748414426108874770881177621577939422483588409006552222664568614803459171828958877774010711064710751423691160901449214744083300045388733296090547350090396605964031790719681259785335715809693168021218879714660976384698669487289809878396911019005857799977108884577386511617268661479615062415460268257270693060232113007477254043872617709506192868645487720618706995582698921 := by decide +kernel
theorem ll1279_6 : llr (2 ^ 1279 - 1) 5553702771248361748414426108874770881177621577939422483588409006552222664568614803459171828958877774010711064710751423691160901449214744083300045388733296090547350090396605964031790719681259785335715809693168021218879714660976384698669487289809878396911019005857799977108884577386511617268661479615062415460268257270693060232113007477254043872617709506192868645487720618706995582698921 128 = 5164857574405847060407622369055915809297570571780717688599380550370474148746077386495199976653532827000786286784128015016189469135002430309997138164824648765103674858663424324849498617788063253644294088172631568642012496377903662324499629549192106787592596941012525017220403452373623725672283351847481049538368803582680294321234219822142791700118582318505377421230482668130563991107937 := by decide +kernel
theorem ll1279_7 : llr (2 ^ 1279 - 1) 5164857574405847060407622369055915809297570571780717688599380550370474148746077386495199976653532827000786286784128015016189469135002430309997138164824648765103674858663424324849498617788063253644294088172631568642012496377903662324499629549192106787592596941012525017220403452373623725672283351847481049538368803582680294321234219822142791700118582318505377421230482668130563991107937 128 = 900362567159198476447203852228174297194808557268962316152481413440235058938825835791536417451670991859036006236810924105296883004597775061746249234754143865884118743166825380671904490428629436075895637518286852571814358562837738108209688753044194862575190894412619582678487951255340068137253265485550454842153369545591946145096466502635909191152804983692038434828176314579029567950563 := by decide +kernel
theorem ll1279_8 : llr (2 ^ 1279 - 1) 900362567159198476447203852228174297194808557268962316152481413440235058938825835791536417451670991859036006236810924105296883004597775061746249234754143865884118743166825380671904490428629436075895637518286852571814358562837738108209688753044194862575190894412619582678487951255340068137253265485550454842153369545591946145096466502635909191152804983692038434828176314579029567950563 128 = 9456163933521975027730264098406927138473881173186810660121262698612587365002682869554150932205346704742518360889071831186760308094818636170467625127369511998447509972913802231118907980240717084687632451498904713754661961637497846111822656136037388081546649810589126701995472199867051254958068273814444191572618236505128679441681870560964087865140942652448147170897418166746903588455500 := by decide +kernel
theorem ll1279_9 : llr (2 ^ 1279 - 1) 9456163933521975027730264098406927138473881173186810660121262698612587365002682869554150932205346704742518360889071831186760308094818636170467625127369511998447509972913802231118907980240717084687632451498904713754661961637497846111822656136037388081546649810589126701995472199867051254958068273814444191572618236505128679441681870560964087865140942652448147170897418166746903588455500 125 = 0 := by decide +kernel
theorem pr1279 : Pr (2 ^ 1279 - 1) := by
  refine lucas_lehmer (p := 1279) (by omega) rfl ?_
  rw [show 1279 - 2 = 128 + (128 + (128 + (128 + (128 + (128 + (128 + (128 + (128 + (125))))))))) from rfl]
  rw [llr_add, ll1279_0, llr_add, ll1279_1, llr_add, ll1279_2, llr_add, ll1279_3, llr_add, ll1279_4, llr_add, ll1279_5, llr_add, ll1279_6, llr_add, ll1279_7, llr_add, ll1279_8, ll1279_9]

end Go.Proofs.YtnfjmngchapdnaaGreatDoor
