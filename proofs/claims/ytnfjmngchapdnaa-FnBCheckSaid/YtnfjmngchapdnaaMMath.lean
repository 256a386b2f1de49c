
/- Numbers of several words: values of lists of words. Plain Lean. -/
namespace Go.Proofs.Ytnfjmngchapdnaa

/-- 2^64, behind a name. -/
def BB : Nat := 18446744073709551616
theorem BB_pos : 0 < BB := by unfold BB; omega
theorem BB_eq : BB = 2 ^ 64 := by unfold BB; rfl

def val : List Nat → Nat
  | [] => 0
  | x :: l => x + BB * val l

def Lt (L : List Nat) : Prop := ∀ x, x ∈ L → x < BB
theorem Lt.nil : Lt [] := fun _ h => by cases h
theorem Lt.cons {x : Nat} {L : List Nat} (hx : x < BB) (h : Lt L) : Lt (x :: L) := fun y hy => by
  rcases List.mem_cons.1 hy with rfl | hy
  · exact hx
  · exact h y hy
theorem Lt.head {x : Nat} {L : List Nat} (h : Lt (x :: L)) : x < BB := h x (List.mem_cons_self ..)
theorem Lt.tail {x : Nat} {L : List Nat} (h : Lt (x :: L)) : Lt L := fun y hy => h y (List.mem_cons_of_mem _ hy)
theorem Lt.get {L : List Nat} (h : Lt L) (i : Nat) (hi : i < L.length) : L[i] < BB := h _ (List.getElem_mem hi)
theorem Lt.set {L : List Nat} (h : Lt L) (i y : Nat) (hy : y < BB) : Lt (L.set i y) := fun z hz => by
  rcases List.mem_or_eq_of_mem_set hz with hz | rfl
  · exact h z hz
  · exact hy
theorem Lt.append {L M : List Nat} (h : Lt L) (k : Lt M) : Lt (L ++ M) := fun z hz => by
  rcases List.mem_append.1 hz with hz | hz
  · exact h z hz
  · exact k z hz
theorem Lt.take {L : List Nat} (h : Lt L) (n : Nat) : Lt (L.take n) := fun z hz => h z (List.mem_of_mem_take hz)
theorem Lt.drop {L : List Nat} (h : Lt L) (n : Nat) : Lt (L.drop n) := fun z hz => h z (List.mem_of_mem_drop hz)
theorem Lt.replicate (n : Nat) : Lt (List.replicate n 0) := fun z hz => by rw [(List.mem_replicate.1 hz).2]; exact BB_pos
theorem Lt.left {L M : List Nat} (h : Lt (L ++ M)) : Lt L := fun z hz => h z (List.mem_append_left _ hz)
theorem Lt.right {L M : List Nat} (h : Lt (L ++ M)) : Lt M := fun z hz => h z (List.mem_append_right _ hz)

theorem val_append : ∀ (L M : List Nat), val (L ++ M) = val L + BB ^ L.length * val M
  | [], M => by simp [val]
  | x :: L, M => by
    simp only [List.cons_append, val, val_append L M, List.length_cons, Nat.pow_succ, Nat.mul_add]
    rw [← Nat.mul_assoc, Nat.mul_comm BB (BB ^ L.length)]
    omega

theorem val_lt : ∀ {L : List Nat}, Lt L → val L < BB ^ L.length
  | [], _ => by simp [val]
  | x :: L, h => by
    have h1 := val_lt h.tail
    have h2 := h.head
    simp only [val, List.length_cons, Nat.pow_succ]
    have h3 : BB * (val L + 1) ≤ BB * BB ^ L.length := Nat.mul_le_mul_left _ h1
    rw [Nat.mul_add, Nat.mul_one] at h3
    rw [Nat.mul_comm (BB ^ L.length) BB]
    omega

theorem val_set : ∀ (L : List Nat) (i y : Nat) (hi : i < L.length), val (L.set i y) + BB ^ i * L[i] = val L + BB ^ i * y
  | [], i, y, hi => by simp at hi
  | x :: L, 0, y, hi => by simp [val]; omega
  | x :: L, i + 1, y, hi => by
    have h := val_set L i y (by simpa using hi)
    simp only [List.set_cons_succ, val, List.getElem_cons_succ, Nat.pow_succ]
    have e : ∀ z, BB ^ i * BB * z = BB * (BB ^ i * z) := fun z => by rw [Nat.mul_comm (BB ^ i) BB, Nat.mul_assoc]
    rw [e, e]
    have h' := congrArg (BB * ·) h
    simp only [Nat.mul_add] at h'
    omega

theorem val_take_succ (L : List Nat) (i : Nat) (hi : i < L.length) : val (L.take (i + 1)) = val (L.take i) + BB ^ i * L[i] := by
  rw [List.take_succ_eq_append_getElem hi, val_append]
  simp [val, List.length_take, Nat.min_eq_left (Nat.le_of_lt hi)]

theorem val_replicate (n : Nat) : val (List.replicate n 0) = 0 := by
  induction n with
  | zero => rfl
  | succ n ih => simp [List.replicate_succ, val, ih]

theorem val_inj : ∀ {L M : List Nat}, Lt L → Lt M → L.length = M.length → val L = val M → L = M
  | [], [], _, _, _, _ => rfl
  | [], _ :: _, _, _, h, _ => by simp at h
  | _ :: _, [], _, _, h, _ => by simp at h
  | x :: L, y :: M, hL, hM, hl, hv => by
    have h1 := hL.head
    have h2 := hM.head
    simp only [val] at hv
    have hx : x = y := by
      have := congrArg (· % BB) hv
      simp only [Nat.add_mul_mod_self_left] at this
      rw [Nat.mod_eq_of_lt h1, Nat.mod_eq_of_lt h2] at this
      exact this
    subst hx
    have hv' : BB * val L = BB * val M := by omega
    rw [val_inj hL.tail hM.tail (by simpa using hl) (Nat.eq_of_mul_eq_mul_left BB_pos hv')]

/-- x + y + c as a word and a carry. -/
structure AddR (x y c s d : Nat) : Prop where
  eq : s + d * BB = x + y + c
  lt : s < BB
  le : d ≤ 1
/-- x - y - c as a word and a borrow. -/
structure SubR (x y c s d : Nat) : Prop where
  eq : s + y + c = x + d * BB
  lt : s < BB
  le : d ≤ 1
/-- x * y as two words. -/
structure MulR (x y h l : Nat) : Prop where
  eq : l + h * BB = x * y
  lt : l < BB
  lt' : h < BB

theorem AddR.mk' (x y c : Nat) (hx : x < BB) (hy : y < BB) (hc : c ≤ 1) : AddR x y c ((x + y + c) % 18446744073709551616) ((x + y + c) / 18446744073709551616) := by
  unfold BB at hx hy
  refine ⟨?_, ?_, ?_⟩ <;> (try unfold BB) <;> omega
theorem SubR.mk' (x y c : Nat) (hx : x < BB) (hy : y < BB) (hc : c ≤ 1) : SubR x y c ((x + 18446744073709551616 - y - c) % 18446744073709551616) (if x < y + c then 1 else 0) := by
  unfold BB at hx hy
  refine ⟨?_, ?_, ?_⟩ <;> (try unfold BB) <;> (try split) <;> omega
theorem MulR.mk' (x y : Nat) (hx : x < BB) (hy : y < BB) : MulR x y (x * y / 18446744073709551616) (x * y % 18446744073709551616) := by
  have h : x * y < BB * BB := Nat.mul_lt_mul'' hx hy
  refine ⟨?_, ?_, ?_⟩
  · show x * y % BB + x * y / BB * BB = x * y
    rw [Nat.mul_comm (x * y / BB) BB]
    exact Nat.mod_add_div (x * y) BB
  · exact Nat.mod_lt _ BB_pos
  · exact Nat.div_lt_of_lt_mul h

/-- One round of an addition. -/
theorem add_round {L M : List Nat} {v u d s d' k : Nat} (hk : k < L.length) (hm : k < M.length) (h : val L + d * BB ^ k = v + u) (hr : AddR L[k] M[k] d s d') :
    val (L.set k s) + d' * BB ^ (k + 1) = v + (u + BB ^ k * M[k]) := by
  have h1 := val_set L k s hk
  have h2 := congrArg (BB ^ k * ·) hr.eq
  simp only [Nat.mul_add] at h2
  have e : d' * BB ^ (k + 1) = BB ^ k * (d' * BB) := by
    rw [Nat.pow_succ, ← Nat.mul_assoc, Nat.mul_comm d', Nat.mul_assoc]
  rw [e]
  have e2 : d * BB ^ k = BB ^ k * d := Nat.mul_comm _ _
  rw [e2] at h
  omega
/-- One round of a subtraction. -/
theorem sub_round {L M : List Nat} {v u d s d' k : Nat} (hk : k < L.length) (hm : k < M.length) (h : val L + u = v + d * BB ^ k) (hr : SubR L[k] M[k] d s d') :
    val (L.set k s) + (u + BB ^ k * M[k]) = v + d' * BB ^ (k + 1) := by
  have h1 := val_set L k s hk
  have h2 := congrArg (BB ^ k * ·) hr.eq
  simp only [Nat.mul_add] at h2
  have e : d' * BB ^ (k + 1) = BB ^ k * (d' * BB) := by
    rw [Nat.pow_succ, ← Nat.mul_assoc, Nat.mul_comm d', Nat.mul_assoc]
  rw [e]
  have e2 : d * BB ^ k = BB ^ k * d := Nat.mul_comm _ _
  rw [e2] at h
  omega

/-- How many bits a number has. -/
def blen (n : Nat) : Nat := if n = 0 then 0 else n.log2 + 1
theorem blen_zero : blen 0 = 0 := rfl
theorem lt_blen (n : Nat) : n < 2 ^ blen n := by
  unfold blen
  split
  · rename_i h; subst h; simp
  · exact Nat.lt_log2_self
theorem blen_le {n : Nat} (h : n ≠ 0) : 2 ^ (blen n - 1) ≤ n := by
  unfold blen
  rw [if_neg h]
  exact Nat.log2_self_le h
theorem blen_pos {n : Nat} (h : n ≠ 0) : 0 < blen n := by unfold blen; rw [if_neg h]; omega
theorem blen_le_of_lt {n k : Nat} (h : n < 2 ^ k) : blen n ≤ k := by
  by_cases hn : n = 0
  · subst hn; simp [blen]
  · have h1 := blen_le hn
    have h2 : 2 ^ (blen n - 1) < 2 ^ k := Nat.lt_of_le_of_lt h1 h
    have h3 := (Nat.pow_lt_pow_iff_right (by omega)).1 h2
    omega
theorem lt_of_blen_le {n k : Nat} (h : blen n ≤ k) : n < 2 ^ k := Nat.lt_of_lt_of_le (lt_blen n) (Nat.pow_le_pow_right (by omega) h)
theorem blen_unique {n r : Nat} (h1 : n < 2 ^ r) (h2 : r = 0 ∨ 2 ^ (r - 1) ≤ n) : blen n = r := by
  have h3 := blen_le_of_lt h1
  rcases h2 with rfl | h2
  · omega
  · by_cases hr : r = 0
    · omega
    · have h4 : 2 ^ (r - 1) < 2 ^ blen n := Nat.lt_of_le_of_lt h2 (lt_blen n)
      have h5 := (Nat.pow_lt_pow_iff_right (by omega)).1 h4
      omega
theorem blen_half {n : Nat} (h : n ≠ 0) : blen (n / 2) + 1 = blen n := by
  have h1 := lt_blen n
  have h2 := blen_le h
  have h3 := blen_pos h
  have e : 2 ^ blen n = 2 * 2 ^ (blen n - 1) := by
    rw [← Nat.pow_succ']; congr 1; omega
  have : blen (n / 2) = blen n - 1 := by
    refine blen_unique (by omega) ?_
    by_cases h4 : blen n = 1
    · left; omega
    · right
      have e2 : 2 ^ (blen n - 1) = 2 * 2 ^ (blen n - 1 - 1) := by
        rw [← Nat.pow_succ']; congr 1; omega
      omega
  omega
theorem blen_concat {a x m : Nat} (ha : a < 2 ^ m) (hx : x ≠ 0) : blen (a + 2 ^ m * x) = m + blen x := by
  have h1 := lt_blen x
  have h2 := blen_le hx
  have h3 := blen_pos hx
  refine blen_unique ?_ (.inr ?_)
  · rw [Nat.pow_add]
    have : 2 ^ m * (x + 1) ≤ 2 ^ m * 2 ^ blen x := Nat.mul_le_mul_left _ h1
    rw [Nat.mul_add] at this
    omega
  · rw [show m + blen x - 1 = m + (blen x - 1) by omega, Nat.pow_add]
    have : 2 ^ m * 2 ^ (blen x - 1) ≤ 2 ^ m * x := Nat.mul_le_mul_left _ h2
    omega
theorem BB_pow (k : Nat) : BB ^ k = 2 ^ (64 * k) := by rw [BB_eq, ← Nat.pow_mul]
theorem blen_BB {n : Nat} (h : n < BB) : blen n ≤ 64 := blen_le_of_lt (by rw [← BB_eq]; exact h)

end Go.Proofs.Ytnfjmngchapdnaa
