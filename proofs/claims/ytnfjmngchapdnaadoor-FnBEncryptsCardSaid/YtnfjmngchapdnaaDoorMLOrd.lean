import Derived.Test.YtnfjmngchapdnaaDoorMSpec1
import Derived.Test.YtnfjmngchapdnaaDoorMMath
import Derived.Test.YtnfjmngchapdnaaDoorMTxt
/- Numbers of 32-bit words: LBits, LOrder. -/
namespace Go.Proofs.YtnfjmngchapdnaaDoor
open Go.RowKit

theorem Keeps.cell1 {S : List Nat} {w w' : World} {b i : Nat} {v : Value} (h : w.cell? ⟨b, i, none⟩ = some v) (hk : Keeps S w w') (hb : b < w.heap.size) (hS : b ∉ S) : w'.cell? ⟨b, i, none⟩ = some v := by
  rw [← h]; exact World.cell?_of_block (w := w) (hk.block b hb hS)
theorem W32_pow (k : Nat) : W32 ^ k = 2 ^ (32 * k) := by rw [Nat.pow_mul]; rfl
theorem val32_split (L : List Nat) (k : Nat) (h : k < L.length) : val32 L = val32 (L.take k) + W32 ^ k * (L[k] + W32 * val32 (L.drop (k + 1))) := by
  conv => lhs; rw [← List.take_append_drop k L]
  rw [val32_append, List.drop_eq_getElem_cons h, List.length_take, Nat.min_eq_left (by omega)]
  rfl
theorem Lt32.take {L : List Nat} (h : Lt32 L) (k : Nat) : Lt32 (L.take k) := fun x hx => h x (List.mem_of_mem_take hx)
theorem val32_take_lt {L : List Nat} (h : Lt32 L) (k : Nat) (hk : k ≤ L.length) : val32 (L.take k) < W32 ^ k := by
  have := val32_lt (h.take k)
  rwa [List.length_take, Nat.min_eq_left hk] at this
theorem blen_val32 {M : List Nat} (hl : Lt32 M) (hb : Bare M) (k : Nat) (hk : M.length = k + 1) : blen (val32 M) = 32 * k + blen (M[k]'(by omega)) := by
  have h1 := val32_split M k (by omega)
  rw [List.drop_of_length_le (by omega)] at h1
  have hx : M[k]'(by omega) ≠ 0 := by
    have := hb k hk
    rw [List.getElem?_eq_getElem (by omega)] at this
    simpa using this
  rw [h1, W32_pow]
  simp only [val32, Nat.mul_zero, Nat.add_zero]
  exact blen_concat (by rw [← W32_pow]; exact val32_take_lt hl k (by omega)) hx

set_option maxRecDepth 100000 in
set_option maxHeartbeats 1000000 in
theorem lBits_any (a : Option Addr) (n c : Nat) (M : List Nat) (w : World) (h : N32 w a n c M) (hn : n ≤ 1000) :
    Calls Tryd.prog 10 #[.slice a n c] w fun e w' => e = .returned (.int .i64 (blen (val32 M) : Int)) ∧ w = w' := by
  go_enter Tryd.func10, Tryd.ntmps10
  go_wp2_with fail
  refine (lBare_any a n c M _ h hn).mono ?_
  rintro e w1 ⟨⟨n', c', M', rfl, hN, hv, hB, hn'⟩, rfl⟩
  have HV := Lib.hid hv
  clear hv h
  obtain ⟨g1, g2, g3, g4⟩ := hN
  rcases Nat.eq_zero_or_pos n' with h0 | h0
  · subst h0
    have hM : M' = [] := List.length_eq_zero_iff.1 g1
    have e0 : Hid (blen (val32 M) = 0) := by
      have h := HV.out
      rw [hM] at h
      exact Lib.hid (by rw [← h]; rfl)
    clear hM
    go_wp2
    go_ret
    rw [e0.out]
    exact ⟨rfl, rfl⟩
  · obtain ⟨k, rfl⟩ : ∃ k, n' = k + 1 := ⟨n' - 1, by omega⟩
    obtain ⟨b, o, rfl, hb, hc⟩ := g4 (by intro e; subst e; simp at g1)
    have cc := hc k (by omega)
    have hbl := blen_val32 g3 hB k g1
    have hxlt := g3 (M'[k]'(by omega)) (List.getElem_mem _)
    obtain ⟨x, hx⟩ : ∃ x, x = M'[k]'(by omega) := ⟨_, rfl⟩
    rw [← hx] at cc hbl hxlt
    rw [HV.out] at hbl
    rw [W32_eq] at hxlt
    have HBL := Lib.hid hbl
    clear hx hbl hc
    have i1 : ¬ ((k : Int) + 1) = 0 := by omega
    have i2 : (k : Int) + 1 - 1 = (k : Int) := by omega
    have i3 : (0 : Int) ≤ (k : Int) := by omega
    have i4 : (k : Int) < (k : Int) + 1 := by omega
    have hb32 : blen x ≤ 32 := blen_le_of_lt (by omega)
    go_wp2
    go_loopw [3, 4] (fun l t wr => ∃ (m j : Nat), t = .int .u32 (m : Int) ∧ l = .int .i64 (j : Int) ∧ Hid (j + blen m = 32 * k + blen x) ∧ m < 4294967296 ∧ wr = w) (fun _ t _ => (intOf t).toNat)
    case atStart =>
      exact ⟨x, 32 * k, rfl, by go_num, Lib.hid rfl, hxlt, rfl⟩
    case round =>
      obtain ⟨m, j, rfl, rfl, hj, hm, rfl⟩ := hrel
      by_cases hm0 : m = 0
      · subst hm0
        go_wp2
        go_ret
        have := hj.out
        rw [blen_zero, Nat.add_zero] at this
        exact ⟨ret_int (by rw [HBL.out, this]), rfl⟩
      · have h1 := blen_half hm0
        have H1 := Lib.hid h1
        have h2 := blen_pos hm0
        have hj64 : j ≤ 40000 := by have := hj.out; omega
        have hz : (0 : Int) < (m : Int) := by omega
        clear h1
        go_wp2
        refine ⟨⟨m / 2, j + 1, by go_num, by go_num, Lib.hid (by have := hj.out; have := H1.out; omega), by omega, trivial⟩, by simp [intOf]; omega⟩

def OrdR (x y : Nat) (o : Int) : Prop := (x < y ∧ o = -1) ∨ (x = y ∧ o = 0) ∨ (y < x ∧ o = 1)

theorem val32_len_lt {A B : List Nat} (hA : Lt32 A) (hB : Bare B) (h : A.length < B.length) : val32 A < val32 B := by
  obtain ⟨k, hk⟩ : ∃ k, B.length = k + 1 := ⟨B.length - 1, by omega⟩
  have h1 := val32_lt hA
  have h2 := val32_bare_lt hB k hk
  have h3 : W32 ^ A.length ≤ W32 ^ k := Nat.pow_le_pow_right (by decide) (by omega)
  omega
theorem val32_word_lt {A B : List Nat} (hA : Lt32 A) (hB : Lt32 B) (k : Nat) (hk : k < A.length) (hk2 : k < B.length) (he : A.drop (k + 1) = B.drop (k + 1)) (h : A[k] < B[k]) : val32 A < val32 B := by
  rw [val32_split A k hk, val32_split B k hk2, he]
  have h1 := val32_take_lt hA k (by omega)
  have h2 : W32 ^ k * (A[k] + W32 * val32 (B.drop (k + 1)) + 1) ≤ W32 ^ k * (B[k] + W32 * val32 (B.drop (k + 1))) := Nat.mul_le_mul_left _ (by omega)
  rw [Nat.mul_add, Nat.mul_one] at h2
  omega

set_option maxRecDepth 100000 in
set_option maxHeartbeats 1000000 in
theorem lOrder_any (a a2 : Option Addr) (n c n2 c2 : Nat) (A B : List Nat) (w : World) (hA : N32 w a n c A) (hB : N32 w a2 n2 c2 B) (hn : n ≤ 1000) (hn2 : n2 ≤ 1000) :
    Calls Tryd.prog 33 #[.slice a n c, .slice a2 n2 c2] w fun e w' => (∃ o, e = .returned (.int .i64 o) ∧ OrdR (val32 A) (val32 B) o) ∧ Keeps [] w w' := by
  go_enter Tryd.func33, Tryd.ntmps33
  go_wp2_with fail
  refine (lBare_any a n c A _ hA hn).mono ?_
  rintro e w1 ⟨⟨k, c', M, rfl, hM, hMv, hMb, hk⟩, rfl⟩
  go_wp2_with fail
  refine (lBare_any a2 n2 c2 B _ hB hn2).mono ?_
  rintro e w1 ⟨⟨k2, c2', N, rfl, hN, hNv, hNb, hk2⟩, rfl⟩
  have HMV := Lib.hid hMv; have HNV := Lib.hid hNv
  clear hMv hNv hA hB
  obtain ⟨g1, g2, g3, g4⟩ := hM
  obtain ⟨f1, f2, f3, f4⟩ := hN
  by_cases hlen : k = k2
  · subst hlen
    have G1 := Lib.hid g1; have F1 := Lib.hid f1
    clear g1 f1
    go_wp2
    go_loopw [5] (fun ii wr => ∃ j : Nat, ii = .int .i64 ((j : Int) - 1) ∧ j ≤ k ∧ Hid (M.drop j = N.drop j) ∧ Hid (Keeps [] w wr)) (fun ii _ => (intOf ii + 1).toNat)
    case atStart => exact ⟨k, by go_num, Nat.le_refl _, Lib.hid (by rw [List.drop_of_length_le (by have := G1.out; omega), List.drop_of_length_le (by have := F1.out; omega)]), Lib.hid (Keeps.refl _ _)⟩
    case round =>
      obtain ⟨j, rfl, hj, he, hkp⟩ := hrel
      cases j with
      | zero =>
        have i0 : ¬ (0 : Int) ≤ ((0 : Nat) : Int) - 1 := by omega
        have e0 : M = N := by have := he.out; simpa using this
        subst e0
        go_wp2
        go_ret
        exact ⟨⟨0, rfl, by rw [← HMV.out, ← HNV.out]; exact .inr (.inl ⟨rfl, rfl⟩)⟩, hkp.out⟩
      | succ j =>
        obtain ⟨b, o, rfl, hb, hc⟩ := g4 (by intro e; have := G1.out; subst e; simp at this; omega)
        obtain ⟨b2, o2, rfl, hb2, hc2⟩ := f4 (by intro e; have := F1.out; subst e; simp at this; omega)
        have hjM : j < M.length := by have := G1.out; omega
        have hjN : j < N.length := by have := F1.out; omega
        have cc := Keeps.cell1 (hc j hjM) hkp.out hb (by simp)
        have cc2 := Keeps.cell1 (hc2 j hjN) hkp.out hb2 (by simp)
        obtain ⟨x, hx⟩ : ∃ x, x = M[j] := ⟨_, rfl⟩
        obtain ⟨y, hy⟩ : ∃ y, y = N[j] := ⟨_, rfl⟩
        rw [← hx] at cc
        rw [← hy] at cc2
        have HX := Lib.hid hx; have HY := Lib.hid hy
        clear hx hy hc hc2
        have i2 : ((j + 1 : Nat) : Int) - 1 = (j : Int) := by omega
        have i2' : (j : Int) + 1 - 1 = (j : Int) := by omega
        have i3 : (0 : Int) ≤ (j : Int) := by omega
        have i4 : (j : Int) < (k : Int) := by omega
        rcases Nat.lt_trichotomy x y with hlt | hlt | hlt
        · have i5 : (x : Int) < (y : Int) := by omega
          go_wp2_with fail
          refine wp_region_txt [0,0,0,1,0,0,0,1,0] (fun _ => True) (by kernel_rfl) (by kernel_rfl) trivial ?_
          simp only [withMarks]
          repeat (first
            | ((with_reducible refine txt_v (v := ?_) ?_ ?_); (any_goals ((with_reducible refine Yl.mk ?_ ?_); rfl; intro w hSw; (go_simp <;> (try go_bits) <;> (repeat (first | rw [if_pos (by omega)] | rw [if_neg (by omega)])) <;> with_reducible rfl))); try simp only [Act.put, List.setIfInBounds_toArray, List.set_cons_zero, List.set_cons_succ])
            | ((with_reducible refine txt_u ?_ ?_); rfl; try simp only [Act.put, List.setIfInBounds_toArray, List.set_cons_zero, List.set_cons_succ])
            | ((with_reducible refine txt_l (v := ?_) ?_ ?_); (any_goals ((with_reducible refine Reads.mk ?_ ?_); rfl; (go_simp <;> (try go_bits) <;> (repeat (first | rw [if_pos (by omega)] | rw [if_neg (by omega)])) <;> with_reducible rfl))); try simp only [Act.put, List.setIfInBounds_toArray, List.set_cons_zero, List.set_cons_succ])
            | ((with_reducible refine txt_e ?_ ?_); rfl; intro K hK; go_simp; (first | (refine hK _ _ trivial ?_) | ((first | fail); dsimp only; refine hK _ _ trivial ?_)); clear hK K; try simp only [Act.put, List.setIfInBounds_toArray, List.set_cons_zero, List.set_cons_succ]))
          refine txt_nil ?_
          go_wp2
          go_ret
          exact ⟨⟨-1, rfl, by rw [← HMV.out, ← HNV.out]; exact .inl ⟨val32_word_lt g3 f3 j hjM hjN he.out (by rw [← HX.out, ← HY.out]; exact hlt), rfl⟩⟩, hkp.out.drew⟩
        · have i5 : ¬ (x : Int) < (y : Int) := by omega
          have i6 : ¬ (y : Int) < (x : Int) := by omega
          go_wp2_with fail
          refine wp_region_txt [0,0,0,1,0,0,0,1,0] (fun _ => True) (by kernel_rfl) (by kernel_rfl) trivial ?_
          simp only [withMarks]
          repeat (first
            | ((with_reducible refine txt_v (v := ?_) ?_ ?_); (any_goals ((with_reducible refine Yl.mk ?_ ?_); rfl; intro w hSw; (go_simp <;> (try go_bits) <;> (repeat (first | rw [if_pos (by omega)] | rw [if_neg (by omega)])) <;> with_reducible rfl))); try simp only [Act.put, List.setIfInBounds_toArray, List.set_cons_zero, List.set_cons_succ])
            | ((with_reducible refine txt_u ?_ ?_); rfl; try simp only [Act.put, List.setIfInBounds_toArray, List.set_cons_zero, List.set_cons_succ])
            | ((with_reducible refine txt_l (v := ?_) ?_ ?_); (any_goals ((with_reducible refine Reads.mk ?_ ?_); rfl; (go_simp <;> (try go_bits) <;> (repeat (first | rw [if_pos (by omega)] | rw [if_neg (by omega)])) <;> with_reducible rfl))); try simp only [Act.put, List.setIfInBounds_toArray, List.set_cons_zero, List.set_cons_succ])
            | ((with_reducible refine txt_e ?_ ?_); rfl; intro K hK; go_simp; (first | (refine hK _ _ trivial ?_) | ((first | fail); dsimp only; refine hK _ _ trivial ?_)); clear hK K; try simp only [Act.put, List.setIfInBounds_toArray, List.set_cons_zero, List.set_cons_succ]))
          refine txt_nil ?_
          go_wp2_with fail
          refine wp_region_txt [0,0,0,1,0,0,0,1,0] (fun _ => True) (by kernel_rfl) (by kernel_rfl) trivial ?_
          simp only [withMarks]
          repeat (first
            | ((with_reducible refine txt_v (v := ?_) ?_ ?_); (any_goals ((with_reducible refine Yl.mk ?_ ?_); rfl; intro w hSw; (go_simp <;> (try go_bits) <;> (repeat (first | rw [if_pos (by omega)] | rw [if_neg (by omega)])) <;> with_reducible rfl))); try simp only [Act.put, List.setIfInBounds_toArray, List.set_cons_zero, List.set_cons_succ])
            | ((with_reducible refine txt_u ?_ ?_); rfl; try simp only [Act.put, List.setIfInBounds_toArray, List.set_cons_zero, List.set_cons_succ])
            | ((with_reducible refine txt_l (v := ?_) ?_ ?_); (any_goals ((with_reducible refine Reads.mk ?_ ?_); rfl; (go_simp <;> (try go_bits) <;> (repeat (first | rw [if_pos (by omega)] | rw [if_neg (by omega)])) <;> with_reducible rfl))); try simp only [Act.put, List.setIfInBounds_toArray, List.set_cons_zero, List.set_cons_succ])
            | ((with_reducible refine txt_e ?_ ?_); rfl; intro K hK; go_simp; (first | (refine hK _ _ trivial ?_) | ((first | fail); dsimp only; refine hK _ _ trivial ?_)); clear hK K; try simp only [Act.put, List.setIfInBounds_toArray, List.set_cons_zero, List.set_cons_succ]))
          refine txt_nil ?_
          go_wp2
          refine ⟨⟨j, by go_num, by omega, Lib.hid ?_, Lib.hid hkp.out.drew.drew⟩, by simp [intOf]⟩
          rw [List.drop_eq_getElem_cons hjM, List.drop_eq_getElem_cons hjN, he.out, ← HX.out, ← HY.out, hlt]
        · have i5 : ¬ (x : Int) < (y : Int) := by omega
          have i6 : (y : Int) < (x : Int) := by omega
          go_wp2_with fail
          refine wp_region_txt [0,0,0,1,0,0,0,1,0] (fun _ => True) (by kernel_rfl) (by kernel_rfl) trivial ?_
          simp only [withMarks]
          repeat (first
            | ((with_reducible refine txt_v (v := ?_) ?_ ?_); (any_goals ((with_reducible refine Yl.mk ?_ ?_); rfl; intro w hSw; (go_simp <;> (try go_bits) <;> (repeat (first | rw [if_pos (by omega)] | rw [if_neg (by omega)])) <;> with_reducible rfl))); try simp only [Act.put, List.setIfInBounds_toArray, List.set_cons_zero, List.set_cons_succ])
            | ((with_reducible refine txt_u ?_ ?_); rfl; try simp only [Act.put, List.setIfInBounds_toArray, List.set_cons_zero, List.set_cons_succ])
            | ((with_reducible refine txt_l (v := ?_) ?_ ?_); (any_goals ((with_reducible refine Reads.mk ?_ ?_); rfl; (go_simp <;> (try go_bits) <;> (repeat (first | rw [if_pos (by omega)] | rw [if_neg (by omega)])) <;> with_reducible rfl))); try simp only [Act.put, List.setIfInBounds_toArray, List.set_cons_zero, List.set_cons_succ])
            | ((with_reducible refine txt_e ?_ ?_); rfl; intro K hK; go_simp; (first | (refine hK _ _ trivial ?_) | ((first | fail); dsimp only; refine hK _ _ trivial ?_)); clear hK K; try simp only [Act.put, List.setIfInBounds_toArray, List.set_cons_zero, List.set_cons_succ]))
          refine txt_nil ?_
          go_wp2_with fail
          refine wp_region_txt [0,0,0,1,0,0,0,1,0] (fun _ => True) (by kernel_rfl) (by kernel_rfl) trivial ?_
          simp only [withMarks]
          repeat (first
            | ((with_reducible refine txt_v (v := ?_) ?_ ?_); (any_goals ((with_reducible refine Yl.mk ?_ ?_); rfl; intro w hSw; (go_simp <;> (try go_bits) <;> (repeat (first | rw [if_pos (by omega)] | rw [if_neg (by omega)])) <;> with_reducible rfl))); try simp only [Act.put, List.setIfInBounds_toArray, List.set_cons_zero, List.set_cons_succ])
            | ((with_reducible refine txt_u ?_ ?_); rfl; try simp only [Act.put, List.setIfInBounds_toArray, List.set_cons_zero, List.set_cons_succ])
            | ((with_reducible refine txt_l (v := ?_) ?_ ?_); (any_goals ((with_reducible refine Reads.mk ?_ ?_); rfl; (go_simp <;> (try go_bits) <;> (repeat (first | rw [if_pos (by omega)] | rw [if_neg (by omega)])) <;> with_reducible rfl))); try simp only [Act.put, List.setIfInBounds_toArray, List.set_cons_zero, List.set_cons_succ])
            | ((with_reducible refine txt_e ?_ ?_); rfl; intro K hK; go_simp; (first | (refine hK _ _ trivial ?_) | ((first | fail); dsimp only; refine hK _ _ trivial ?_)); clear hK K; try simp only [Act.put, List.setIfInBounds_toArray, List.set_cons_zero, List.set_cons_succ]))
          refine txt_nil ?_
          go_wp2
          go_ret
          exact ⟨⟨1, rfl, by rw [← HMV.out, ← HNV.out]; exact .inr (.inr ⟨val32_word_lt f3 g3 j hjN hjM he.out.symm (by rw [← HX.out, ← HY.out]; exact hlt), rfl⟩)⟩, hkp.out.drew.drew⟩
  · have i1 : ¬ (k : Int) = (k2 : Int) := by omega
    rcases Nat.lt_or_ge k k2 with hlt | hlt
    · have i2 : (k : Int) < (k2 : Int) := by omega
      go_wp2
      go_ret
      exact ⟨⟨-1, rfl, by rw [← HMV.out, ← HNV.out]; exact .inl ⟨val32_len_lt g3 hNb (by omega), rfl⟩⟩, Keeps.refl _ _⟩
    · have i2 : ¬ (k : Int) < (k2 : Int) := by omega
      go_wp2
      go_ret
      exact ⟨⟨1, rfl, by rw [← HMV.out, ← HNV.out]; exact .inr (.inr ⟨val32_len_lt f3 hMb (by omega), rfl⟩)⟩, Keeps.refl _ _⟩

end Go.Proofs.YtnfjmngchapdnaaDoor
