import Derived.Test.YtnfjmngchapdnaaMBytes
/- bigmod: addMulVVW. -/
namespace Go.Proofs.Ytnfjmngchapdnaa
open Go.RowKit

theorem mul_le_sq {x y : Nat} (hx : x < BB) (hy : y < BB) : x * y + 2 * BB ≤ BB * BB + 1 := by
  have h1 : x * y ≤ (BB - 1) * (BB - 1) := Nat.mul_le_mul (by omega) (by omega)
  have h2 : BB * BB = (BB - 1) * (BB - 1) + 2 * BB - 1 := by
    obtain ⟨b, hb⟩ : ∃ b, BB = b + 1 := ⟨BB - 1, by have := BB_pos; omega⟩
    rw [hb]
    simp only [Nat.add_sub_cancel, Nat.add_mul, Nat.mul_add, Nat.one_mul, Nat.mul_one]
    omega
  have := BB_pos
  omega

theorem lt_of_mul {h P B l : Nat} (he : l + h * B = P) (hP : P < B * B) : h < B := by
  rcases Nat.lt_or_ge h B with h1 | h1
  · exact h1
  · have : B * B ≤ h * B := Nat.mul_le_mul_right _ h1
    omega
theorem carry_zero {a d s B : Nat} (he : s + d * B = a) (ha : a < B) (hd : d ≤ 1) : d = 0 ∧ s = a := by
  have d01 : d = 0 ∨ d = 1 := by omega
  rcases d01 with rfl | rfl
  · simp at he; exact ⟨rfl, he⟩
  · omega
theorem mul_step {x y z cr h1 l1 l2 c2 h2 d2 l3 c3 h3 d3 : Nat} (hx : x < BB) (hy : y < BB) (hz : z < BB) (hc : cr < BB) (m : MulR x y h1 l1) (a1 : AddR l1 z 0 l2 c2) (a2 : AddR h1 0 c2 h2 d2)
    (a3 : AddR l2 cr 0 l3 c3) (a4 : AddR h2 0 c3 h3 d3) : l3 + h3 * BB = z + cr + x * y := by
  have e0 := m.eq; have e1 := a1.eq; have e2 := a2.eq; have e3 := a3.eq; have e4 := a4.eq
  have b4 := a1.le; have b6 := a2.le; have b8 := a3.le; have b10 := a4.le
  have hP := mul_le_sq hx hy
  have hB : BB ≤ BB * BB := Nat.le_mul_of_pos_left _ BB_pos
  -- the first two: h1 + c2 is one word
  have f1 : l2 + (h1 + c2) * BB = z + x * y := by rw [Nat.add_mul]; omega
  have g1 : h1 + c2 < BB := lt_of_mul f1 (by omega)
  obtain ⟨rfl, q1⟩ := carry_zero e2 (by omega) b6
  have f2 : l3 + (h2 + c3) * BB = z + cr + x * y := by
    rw [Nat.add_mul, q1]
    simp only [Nat.add_zero] at f1 ⊢
    omega
  have g2 : h2 + c3 < BB := lt_of_mul f2 (by omega)
  obtain ⟨rfl, q2⟩ := carry_zero e4 (by omega) b10
  rw [q2]
  simpa using f2

set_option maxRecDepth 100000 in
set_option maxHeartbeats 2000000 in
theorem addMulVVW_any (tb i n cz lx cx y : Nat) (A Z C X J : List Nat) (w : World) (hT : Row w tb (A ++ (Z ++ C))) (hA : A.length = i) (hZ : Z.length = n) (hZl : Lt Z) (hX : Row w lx (X ++ J)) (hXn : X.length = n) (hXl : Lt X)
    (hne : tb ≠ lx) (hy : y < BB) (hn0 : 0 < n) (hn : n ≤ 1000) :
    Calls Try.prog 79 #[.slice (some ⟨tb, i, none⟩) n cz, .slice (some ⟨lx, 0, none⟩) n cx, .int .u64 (y : Int)] w fun e w' =>
      ∃ (c : Nat), e = .returned (.int .u64 (c : Int)) ∧ c < BB ∧ ∃ Z' : List Nat, Z'.length = n ∧ Lt Z' ∧ Row w' tb (A ++ (Z' ++ C)) ∧ val Z' + c * BB ^ n = val Z + val X * y ∧ Keeps [tb] w w' := by
  have KZ := Lib.hid hZ; have KX := Lib.hid hXn; have KA := Lib.hid hA
  obtain ⟨vl, hlast⟩ : ∃ v, w.cell? ⟨lx, n - 1, none⟩ = some (.int .u64 (v : Nat)) := ⟨_, hX.cell (n - 1) (by simp; omega)⟩
  have i1 : (0 : Int) ≤ (n : Int) - 1 := by omega
  have i2 : (n : Int) - 1 < (n : Int) := by omega
  clear hZ hXn hA
  go_enter Try.func79, Try.ntmps79
  go_wp2
  clear hlast
  go_loopw [6, 19] (fun cc kk wr => ∃ (k c : Nat) (Y : List Nat), kk = .int .i64 k ∧ cc = .int .u64 c ∧ k ≤ n ∧ c < BB ∧ Hid (Y.length = n) ∧ Lt Y ∧ Row wr tb (A ++ (Y ++ C)) ∧ Hid (Y.drop k = Z.drop k) ∧ Hid (val Y + c * BB ^ k = val Z + val (X.take k) * y) ∧ Keeps [tb] w wr) (fun _ kk _ => n - (intOf kk).toNat)
  case atStart => exact ⟨0, 0, Z, rfl, rfl, by omega, BB_pos, KZ, hZl, hT, rfl, by show _ = _; simp [val], Keeps.refl _ _⟩
  case round =>
    obtain ⟨k, c, Y, rfl, rfl, hk, hc, hYn, hYl, hY, hd, hv, hkp⟩ := hrel
    by_cases hlt : k < n
    · have hYn' := hYn.out
      have hA' := KA.out
      have hX' := KX.out
      have hZ' := KZ.out
      have c1 := hY.cell (i + k) (by simp; omega)
      have f1 := hY.free (i + k)
      have c2 := (hX.keeps hkp (by simpa using Ne.symm hne)).cell k (by simp; omega)
      rw [List.getElem_append_left (by omega)] at c2
      have e1 : (A ++ (Y ++ C))[i + k]'(by simp; omega) = Y[k]'(by omega) := by
        rw [List.getElem_append_right (by omega), List.getElem_append_left (by omega)]
        congr 1; omega
      rw [e1] at c1
      have b1 := hYl.get k (by omega)
      have b2 := hXl.get k (by omega)
      have hset : (A ++ (Y ++ C)).set (i + k) = fun s => A ++ (Y.set k s ++ C) := by
        funext s
        rw [List.set_append_right _ _ (by omega), List.set_append_left _ _ (by omega), show i + k - A.length = k by omega]
      have hz0 : Y[k]'(by omega) = Z[k]'(by omega) := by
        have := congrArg (fun l => l[0]?) hd.out
        simp [List.getElem?_drop] at this
        rw [List.getElem?_eq_getElem (by omega), List.getElem?_eq_getElem (by omega)] at this
        simpa using this
      have hvs := fun s => val_set Y k s (by omega)
      have hts := val_take_succ X k (by omega)
      obtain ⟨zk, hzk⟩ : ∃ x, Y[k]'(by omega) = x := ⟨_, rfl⟩
      obtain ⟨xk, hxk⟩ : ∃ x, X[k]'(by omega) = x := ⟨_, rfl⟩
      rw [hzk] at c1 b1
      rw [hxk] at c2 b2 hts
      simp only [hzk] at hvs
      have Hset := Lib.hid hset; have Hvs := Lib.hid hvs; have Hts := Lib.hid hts
      clear e1 hset hz0 hvs hts hzk hxk hYn' hA' hX' hZ'
      have i3 : (k : Int) < (n : Int) := by omega
      go_wp2_with fail
      refine (mul_any _ _ b2 hy _).mono ?_
      rintro e w1 ⟨h1, l1, rfl, hM, rfl⟩
      go_wp2_with fail
      refine (add_any_z _ _ hM.lt b1 _).mono ?_
      rintro e w1 ⟨l2, c2', rfl, hA1, rfl⟩
      go_wp2_with fail
      refine (add_any_zc _ _ hM.lt' hA1.le _).mono ?_
      rintro e w1 ⟨h2, d2, rfl, hA2, rfl⟩
      go_wp2_with fail
      refine (add_any_z _ _ hA1.lt hc _).mono ?_
      rintro e w1 ⟨l3, c3, rfl, hA3, rfl⟩
      go_wp2_with fail
      refine (add_any_zc _ _ hA2.lt hA3.le _).mono ?_
      rintro e w1 ⟨h3, d3, rfl, hA4, rfl⟩
      go_wp2
      have hms := mul_step b2 hy b1 hc hM hA1 hA2 hA3 hA4
      have hYn' := hYn.out
      refine ⟨⟨k + 1, h3, Y.set k l3, by go_num, rfl, by omega, hA4.lt, by show _ = _; simp [hYn'], hYl.set _ _ hA3.lt, ?_, ?_, ?_, hkp.setCell (by simp) _⟩, by simp [intOf]; omega⟩
      · have := hY.set (i + k) l3
        rw [Hset.out] at this; exact this
      · show _ = _
        have := congrArg (List.drop 1) hd.out
        rw [List.drop_set_of_lt (by omega)]
        simpa [List.drop_drop, Nat.add_comm] using this
      · show _ = _
        have h5 := hv.out
        have h6 := Hvs.out l3
        rw [Hts.out, Nat.add_mul, Nat.mul_assoc]
        have h7 := congrArg (BB ^ k * ·) hms
        simp only [Nat.mul_add] at h7
        have e2 : h3 * BB ^ (k + 1) = BB ^ k * (h3 * BB) := by
          rw [Nat.pow_succ, ← Nat.mul_assoc, Nat.mul_comm h3, Nat.mul_assoc]
        have e3 : c * BB ^ k = BB ^ k * c := Nat.mul_comm _ _
        rw [e2]
        rw [e3] at h5
        omega
    · have hkn : k = n := by omega
      subst hkn
      have i3 : ¬ (k : Int) < (k : Int) := by omega
      go_wp2
      go_ret
      refine ⟨c, rfl, hc, Y, hYn.out, hYl, hY, ?_, hkp⟩
      have := hv.out
      rw [List.take_of_length_le (by have := KX.out; omega)] at this
      exact this

end Go.Proofs.Ytnfjmngchapdnaa
