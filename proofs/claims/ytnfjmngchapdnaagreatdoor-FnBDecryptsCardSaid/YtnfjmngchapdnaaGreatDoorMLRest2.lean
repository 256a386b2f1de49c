import Derived.Test.YtnfjmngchapdnaaGreatDoorMLProd
import Derived.Test.YtnfjmngchapdnaaGreatDoorMKnuth2
import Derived.Deep.DeepCutAuto
/- spec.LRest where the other number has two words at least. -/
namespace Go.Proofs.YtnfjmngchapdnaaGreatDoor
open Go.RowKit

theorem one_cell (w : World) (x : Value) (t : TypeId) : ∀ (j : Nat) (u : Value), [x][j]? = some u → (w.alloc (.cells #[x] t)).cell? ((⟨w.heap.size, 0, none⟩ : Addr).add j) = some u := by
  intro j u hj
  have hj0 : j = 0 := by
    rcases Nat.eq_zero_or_pos j with h | h
    · exact h
    · rw [List.getElem?_eq_none (by simp; omega)] at hj; simp at hj
  subst hj0
  simp at hj
  subst hj
  rw [Addr.add_lit, alloc_cell]; rfl
theorem u32s_snoc (L : List Nat) : u32s L ++ [Value.int .u32 0] = u32s (L ++ [0]) := by simp [u32s]

set_option maxRecDepth 1000000 in
set_option maxHeartbeats 8000000 in
theorem lRest_great (a a2 : Option Addr) (n c n2 c2 : Nat) (A B : List Nat) (w : World) (hA : N32 w a n c A) (hB : N32 w a2 n2 c2 B) (hn : n ≤ 400) (hn2 : n2 ≤ 400) (hge : val32 B ≤ val32 A) (hB1 : 4294967296 ≤ val32 B) :
    Calls Tryz.prog 32 #[.slice a n c, .slice a2 n2 c2] w fun e w' => RetNum e w' n2 (val32 A % val32 B) ∧ Keeps [] w w' := by
  obtain ⟨i0, hi, hz0, hz1, hz2⟩ := info_parts info_u32
  have hu := und_lnum
  go_enter Tryz.func32, Tryz.ntmps32
  go_wp2_with fail
  refine (lBare_any a n c A _ hA (by omega)).mono ?_
  rintro e w1 ⟨⟨k, c', M, rfl, hM, hMv, hMb, hk⟩, rfl⟩
  go_wp2_with fail
  refine (lBare_any a2 n2 c2 B _ hB (by omega)).mono ?_
  rintro e w1 ⟨⟨k2, c2', N, rfl, hN, hNv, hNb, hk2⟩, rfl⟩
  have hN2 : 2 ≤ k2 := by
    rcases Nat.lt_or_ge k2 2 with h | h
    · have h1 := val32_lt hN.2.2.1
      have h2 : W32 ^ N.length ≤ W32 ^ 1 := Nat.pow_le_pow_right (by decide) (by have := hN.1; omega)
      rw [Nat.pow_one] at h2
      have h3 := W32_eq
      omega
    · exact h
  have HMV := Lib.hid hMv; have HNV := Lib.hid hNv
  have i0' : ((k2 : Int) == 0) = false := beq_false_of_ne (by omega)
  have i1' : ((k2 : Int) == 1) = false := beq_false_of_ne (by omega)
  have hord := lOrder_any a a2 k c' k2 c2' M N w hM hN (by omega) (by omega)
  rw [hMv, hNv] at hord
  have HORD := Lib.hid hord
  clear hMv hNv hA hB hord
  go_wp2_with fail
  refine HORD.out.mono ?_
  rintro e w2 ⟨⟨o, rfl, ho⟩, hk1⟩
  have ho2 : ¬ o < 0 := by
    rcases ho with ⟨h, _⟩ | ⟨_, h⟩ | ⟨_, h⟩ <;> omega
  clear ho
  have hM1 := hM.kept hk1
  have hN1 := hN.kept hk1
  have HK1 := Lib.hid hk1
  clear hk1 hM hN
  have hb1 : Hid (blen (val32 N) ≤ 32 * k2 ∧ 32 * k2 < blen (val32 N) + 32) := by
    obtain ⟨j, hj⟩ : ∃ j, k2 = j + 1 := ⟨k2 - 1, by omega⟩
    have hlen : N.length = j + 1 := by rw [hN1.1]; exact hj
    have h1 := blen_val32 hN1.2.2.1 hNb j hlen
    have h2 := hN1.2.2.1 (N[j]'(by omega)) (List.getElem_mem _)
    rw [W32_eq] at h2
    have h3 : blen (N[j]'(by omega)) ≤ 32 := blen_le_of_lt (by omega)
    have h4 : 0 < blen (N[j]'(by omega)) := blen_pos (by
      have := hNb j hlen
      rw [List.getElem?_eq_getElem (by omega)] at this
      simpa using this)
    exact Lib.hid ⟨by omega, by omega⟩
  go_wp2_with fail
  refine (lBits_any a2 k2 c2' N _ hN1 (by omega)).mono ?_
  rintro e w3 ⟨rfl, rfl⟩
  obtain ⟨s, hs⟩ : ∃ s, s = 32 * k2 - blen (val32 N) := ⟨_, rfl⟩
  have hs32 : s < 32 := by have := hb1.out; omega
  have hsI : 32 * (k2 : Int) - (blen (val32 N) : Int) = (s : Int) := by have := hb1.out; omega
  have HS := Lib.hid hs; have HSI := Lib.hid hsI
  clear hs
  go_wp2_with fail
  refine (lShifted_any a k c' s M _ hM1 (by omega) hs32).mono ?_
  rintro e w4 ⟨⟨v, X0, rfl, hXo, hXl, hXv, hXn⟩, hk4⟩
  have hN4 := hN1.kept hk4
  have HK4 := Lib.hid hk4; have HXO := Lib.hid hXo; have HXV := Lib.hid hXv; have HXN := Lib.hid hXn
  have hX401 : X0.length ≤ 401 := by omega
  clear hk4 hXo hXv hXn
  go_wp2_with (at_builtin; refine wpList_append_own _ rfl _ _ 39 rfl w2.heap.size 62 i0 (.int .u32 0) 1 4 hu hi hz0 hz1 hz2 rfl (by decide) _ _ _ rfl (HXO.out.alloc _) ⟨w4.heap.size, 0, none⟩ 1 1 [.int .u32 0] rfl ?qc1 ?qc2 ?qc3 ?qc4 ?qc5 ?qc6 ?_)
  case qc1 => rfl
  case qc2 => exact one_cell _ _ _
  case qc3 => intro u hu; simp at hu; subst hu; rfl
  case qc4 => unfold maxLen; omega
  case qc5 => omega
  case qc6 => have := HK4.out.size; simp; omega
  intro v5 w5 hXo5 hgr5 _
  have hk5 : Keeps [] w2 w5 := (HK4.out.alloc _).grown hgr5 (fun q hq hlt => absurd (HXO.out.lt q hq).1 (by omega))
  rw [u32s_snoc] at hXo5
  have hN5 := (hN1.kept hk5)
  have HK5 := Lib.hid hk5; have HXO5 := Lib.hid hXo5
  clear hk5 hXo5 hgr5
  go_wp2_with fail
  refine (lShifted_any a2 k2 c2' s N _ hN5 (by omega) hs32).mono ?_
  rintro e w6 ⟨⟨vY, Y, rfl, hYo, hYl, hYv, hYn⟩, hk6⟩
  have hYlen : Y.length = k2 := by
    rcases hYn with h | ⟨_, h⟩
    · exact h
    · have h1 := lt_blen (val32 N)
      have h2 : val32 N * 2 ^ s < 2 ^ blen (val32 N) * 2 ^ s := Nat.mul_lt_mul_of_pos_right h1 (Nat.pow_pos (by omega))
      rw [← Nat.pow_add, show blen (val32 N) + s = 32 * k2 by have := HS.out; have := hb1.out; omega, ← W32_pow] at h2
      rw [hYv] at h
      omega
  rcases hYo.2 with ⟨_, h0⟩ | ⟨gY, capY, curY, rfl, hgY, _, hcY, _, _, _⟩
  · omega
  have hX5 := HXO5.out
  rcases hX5.2 with ⟨_, h0⟩ | ⟨gX, capX, curX, rfl, hgX, _, hcX, _, _, _⟩
  · omega
  clear hYn
  have hk6' : Keeps [] w2 w6 := HK5.out.trans1 hk6
  have hX6 : w6.ownsRow w2.heap.size 62 1 (.slice (some ⟨gX, 0, none⟩) (X0.length + 1) capX) (X0.length + 1) (u32s (X0 ++ [0])) := by
    refine ⟨hX5.1, ?_⟩
    rcases hX5.2 with ⟨h, _⟩ | ⟨g, cap, cur, h1, h2, h3, h4⟩
    · exact .inl ⟨h, by omega⟩
    · refine .inr ⟨g, cap, cur, h1, h2, ?_, h4⟩
      rw [hk6.block g (lt_of_block h3) (by simp)]; exact h3
  have HX6 := Lib.hid hX6; have HYO := Lib.hid hYo; have HYV := Lib.hid hYv; have HYN := Lib.hid hYlen; have HK6 := Lib.hid hk6'
  clear hX6 hYo hYv hX5 hk6 hk6'
  have hgXY : gX < w5.heap.size := (HXO5.out.lt gX rfl).2
  obtain ⟨aY, cY', hYeq, hY6⟩ := N32.of_own HYO.out hYl
  have hYx : (some (⟨gY, 0, none⟩ : Addr)) = aY ∧ capY = cY' := by
    injection hYeq with h1 h2 h3
    exact ⟨h1, h3⟩
  obtain ⟨rfl, rfl⟩ := hYx
  clear hYeq
  have HY6 := Lib.hid hY6
  clear hY6
  have hx0 : Hid (X0.length = k ∨ X0.length = k + 1) := by
    rcases HXN.out with h | ⟨h, _⟩
    · exact Lib.hid (.inl h)
    · exact Lib.hid (.inr h)
  have hl1 : Lt32 (X0 ++ [0]) := fun y hy => by
    rcases List.mem_append.1 hy with h | h
    · exact hXl y h
    · simp at h; subst h; decide
  have hv1 : Hid (val32 (X0 ++ [0]) = val32 A * 2 ^ s) := Lib.hid (by rw [val32_snoc, Nat.mul_zero, Nat.add_zero, HXV.out, HMV.out])
  go_wp2
  go_loopw [8] (fun vx wr => ∃ (X : List Nat) (g cx : Nat), vx = .slice (some ⟨g, 0, none⟩) X.length cx ∧ Hid (wr.ownsRow w2.heap.size 62 1 (.slice (some ⟨g, 0, none⟩) X.length cx) X.length (u32s X)) ∧ Lt32 X ∧ Hid (val32 X = val32 A * 2 ^ s) ∧ k + 1 ≤ X.length ∧ X.length ≤ k + 2 ∧ (g = gX ∨ w6.heap.size ≤ g) ∧ Hid (Keeps [gX] w6 wr)) (fun vx _ => (match vx with | .slice _ q _ => k + 2 - q | _ => 0))
  case atStart =>
    have e : (X0 ++ [0]).length = X0.length + 1 := by simp
    refine ⟨X0 ++ [0], gX, capX, by rw [e], Lib.hid (by rw [e]; exact HX6.out), hl1, hv1, ?_, ?_, .inl rfl, Lib.hid (Keeps.refl _ _)⟩
    · have := hx0.out; omega
    · have := hx0.out; omega
  case round =>
    obtain ⟨X, g, cx, rfl, hXo, hXl', hXv', hXk1, hXk2, hg, hXK⟩ := hrel
    by_cases hlt : X.length < k + 2
    · have i1 : (X.length : Int) < (k : Int) + 2 := by omega
      go_wp2_with (at_builtin; refine wpList_append_place _ rfl _ _ 39 rfl w2.heap.size 62 i0 (.int .u32 0) 1 4 hu hi hz0 hz1 hz2 rfl (by decide) _ _ _ _ rfl (hXo.out.alloc _) ⟨wr.heap.size, 0, none⟩ 1 1 [.int .u32 0] rfl ?qc1 ?qc2 ?qc3 ?qc4 ?qc5 ?qc6 ?_)
      case qc1 => rfl
      case qc2 => exact one_cell _ _ _
      case qc3 => intro u hu; simp at hu; subst hu; rfl
      case qc4 => unfold maxLen; omega
      case qc5 => omega
      case qc6 => have := HK6.out.size; have := hXK.out.size; simp; omega
      intro g7 c7 w7 hXo7 hgr7 hg7
      rw [u32s_snoc] at hXo7
      have HXO7 := Lib.hid hXo7; have HGR7 := Lib.hid hgr7
      clear hXo7 hgr7
      go_wp2
      have e : (X ++ [0]).length = X.length + 1 := by simp
      refine ⟨⟨X ++ [0], g7, c7, by rw [e], Lib.hid (by rw [e]; exact HXO7.out), ?_, Lib.hid (by rw [val32_snoc, Nat.mul_zero, Nat.add_zero]; exact hXv'.out), by omega, by omega, ?_, Lib.hid ?_⟩, by show k + 2 - (X.length + 1) < k + 2 - X.length; omega⟩
      · intro y hy
        rcases List.mem_append.1 hy with h | h
        · exact hXl' y h
        · simp at h; subst h; decide
      · rcases hg7 with h | h
        · subst h; exact hg
        · have := hXK.out.size
          try simp at h
          exact .inr (by omega)
      · refine (hXK.out.alloc _).grown HGR7.out (fun q hq hlt => ?_)
        simp only [Option.some.injEq] at hq
        subst hq
        rcases hg with h | h
        · simp [h]
        · omega
    · have i1 : ¬ (X.length : Int) < (k : Int) + 2 := by omega
      have hXlen : X.length = k + 2 := by omega
      have hk2k : k2 ≤ k := by
        obtain ⟨j, hj⟩ : ∃ j, N.length = j + 1 := ⟨N.length - 1, by have := hN1.1; omega⟩
        have h1 := val32_bare_lt hNb j hj
        have h2 := val32_lt hM1.2.2.1
        rw [HMV.out] at h2
        rw [HNV.out] at h1
        rcases Nat.lt_or_ge j M.length with h | h
        · have := hN1.1; have := hM1.1; omega
        · have h3 : W32 ^ M.length ≤ W32 ^ j := Nat.pow_le_pow_right (by decide) h
          omega
      have hYt : Hid (∀ y : Nat, Y[k2 - 1]? = some y → 2147483648 ≤ y) := by
        have hl : Y.length = (k2 - 1) + 1 := by have := HYN.out; omega
        have h := kn_top hl (x := val32 N) (s := s) (by rw [HNV.out]; omega) hYl HYV.out (by have := HS.out; have := hb1.out; omega)
        refine Lib.hid fun y hy => ?_
        rw [List.getElem?_eq_getElem (by omega)] at hy
        simp at hy; omega
      have hYge : Hid (W32 ^ (k2 - 2 + 1) ≤ val32 Y) := by
        have h1 := val32_bare_lt hNb (k2 - 2 + 1) (by have := hN1.1; omega)
        have h2 : val32 N * 1 ≤ val32 N * 2 ^ s := Nat.mul_le_mul_left _ (Nat.pow_pos (by omega))
        refine Lib.hid ?_
        rw [HYV.out]; omega
      have hne : g ≠ gY := by
        have h1 := lt_of_block (w := w6) (b := gY) (by assumption)
        rcases hg with h | h <;> omega
      have hYc : Hid (∀ i y : Nat, Y[i]? = some y → wr.cell? ⟨gY, i, none⟩ = some (.int .u32 (y : Int))) := by
        obtain ⟨f1, f2, f3, f4⟩ := HY6.out
        obtain ⟨b, o, e, hb, hc⟩ := f4 (List.ne_nil_of_length_pos (by omega))
        simp only [Option.some.injEq, Addr.mk.injEq, and_true] at e
        obtain ⟨rfl, rfl⟩ := e
        refine Lib.hid fun i y hy => ?_
        have hi : i < Y.length := by
          rcases Nat.lt_or_ge i Y.length with h | h
          · exact h
          · rw [List.getElem?_eq_none h] at hy; simp at hy
        have h := hc i hi
        rw [Nat.zero_add] at h
        rw [List.getElem?_eq_getElem hi] at hy
        simp only [Option.some.injEq] at hy
        rw [hy] at h
        exact Keeps.cell1 h hXK.out hb (by simp; omega)
      have hYb : gY < wr.heap.size := by
        have h1 := lt_of_block (w := w6) (b := gY) (by assumption)
        have := hXK.out.size
        omega
      have HX7 := Lib.hid (show wr.ownsRow w2.heap.size 62 1 (.slice (some ⟨g, 0, none⟩) (k + 2) cx) (k + 2) (u32s X) by have h := hXo.out; rw [hXlen] at h; exact h)
      have hXL := Lib.hid hXlen
      have hAb := Lib.hid (show val32 A < W32 ^ k by rw [← HMV.out]; have := val32_lt hM1.2.2.1; rw [hM1.1] at this; exact this)
      have hk67 := hXK.out
      have HK67 := Lib.hid hk67
      have hsz26 : w2.heap.size ≤ w6.heap.size := HK6.out.size
      obtain ⟨w7, hw7⟩ : ∃ w7, w7 = wr := ⟨wr, rfl⟩
      subst hw7
      clear hXo hXlen hk67
      go_wp2
      go_loopw [11] (fun jv wx => ∃ (jn : Nat) (Z : List Nat), jv = .int .i64 ((jn : Int) - 1) ∧ jn ≤ k + 2 - k2 ∧ Hid (Z.length = k + 2) ∧ Lt32 Z ∧ Hid (wx.ownsRow w2.heap.size 62 1 (.slice (some ⟨g, 0, none⟩) (k + 2) cx) (k + 2) (u32s Z)) ∧ Hid (val32 Z % val32 Y = (val32 A * 2 ^ s) % val32 Y) ∧ Hid (val32 Z < W32 ^ jn * val32 Y) ∧ Hid (Keeps [g] w7 wx)) (fun jv _ => (intOf jv + 1).toNat)
      case atStart =>
        refine ⟨k + 2 - k2, X, by go_num, Nat.le_refl _, hXL, hXl', HX7, Lib.hid (by rw [hXv'.out]), Lib.hid ?_, Lib.hid (Keeps.refl _ _)⟩
        have h := kn_start hXv'.out hAb.out hs32 (m := k2 - 2) (by omega) hYge.out
        rw [show k2 - 2 + 2 = k2 by omega] at h
        exact h
      case round =>
        obtain ⟨jn, Z, rfl, hjn, hZl, hZt, hZo, hZm, hZb, hZK⟩ := hrel
        cases jn with
        | zero =>
          have j0 : ¬ (0 : Int) ≤ ((0 : Nat) : Int) - 1 := by omega
          as_aux_lemma =>
          have HZB := Lib.hid (show val32 Z < val32 Y by have h := hZb.out; simpa using h)
          obtain ⟨wm, hmk, hown, hgr⟩ := run_make_full (P := Tryz.prog) wr wr.heap.size 39 62 i0 (.int .u32 0) 1 und_lnum hi hz0 hz1 .i64 .i64 k2 (by rw [hz2]; omega) (by unfold maxLen; omega) (Nat.le_refl _)
          have hown' : wm.ownsRow wr.heap.size 62 1 (.slice (some ⟨wr.heap.size, 0, none⟩) k2 k2) k2 (u32s (List.replicate k2 0)) := by
            have e : (madeCells (Value.int .u32 0).cells (k2 * 1)).toList = u32s (List.replicate k2 0) := by
              rw [Nat.mul_one]
              show (madeCells #[Value.int .u32 0] k2).toList = _
              rw [toList_madeCells_one]; simp [u32s]
            rw [← e]; exact hown
          have hkm : Keeps [] wr wm := (Keeps.refl [] wr).grown hgr (by simp)
          have HOM := Lib.hid hown'; have HKM := Lib.hid hkm
          clear hown hgr hown' hkm
          have hgb : Hid (g < wr.heap.size) := by
            rcases hZo.out.2 with ⟨h, _⟩ | ⟨g', cap', cur', h, h1, h2, _⟩
            · simp at h
            · simp only [Value.slice.injEq, Option.some.injEq, Addr.mk.injEq, and_true] at h
              obtain ⟨⟨rfl⟩, _⟩ := h
              exact Lib.hid (lt_of_block h2)
          have hZc : Hid (∀ i x : Nat, Z[i]? = some x → wr.cell? ⟨g, i, none⟩ = some (.int .u32 (x : Int))) := by
            refine Lib.hid fun i x hx => ?_
            have hil := (get_lt hZt hx).1
            have h1 := hZo.out.cellAt i (by have := hZl.out; omega)
            rw [u32s_get hx] at h1
            exact h1
          go_wp2_with fail
          clear hmk
          have hZtop : Hid (Z[k2]? = some 0 ∧ val32 Z = val32 (Z.take k2)) := by
            obtain ⟨x, hx⟩ := some_get (L := Z) (i := k2) (by have := hZl.out; omega)
            have h1 := val32_lt hYl
            rw [HYN.out] at h1
            have h2 := drop_val32 Z k2 (by have := hZl.out; omega)
            have h3 : val32 Z = val32 (Z.take k2) + W32 ^ k2 * val32 (Z.drop k2) := by
              conv => lhs; rw [← List.take_append_drop k2 Z, val32_append, List.length_take, Nat.min_eq_left (by have := hZl.out; omega)]
            have h4 : val32 (Z.drop k2) = 0 := by
              rcases Nat.eq_zero_or_pos (val32 (Z.drop k2)) with h | h
              · exact h
              · have h5 : W32 ^ k2 * 1 ≤ W32 ^ k2 * val32 (Z.drop k2) := Nat.mul_le_mul_left _ h
                have := HZB.out
                omega
            rw [List.getElem?_eq_getElem (by have := hZl.out; omega)] at hx
            simp only [Option.some.injEq] at hx
            rw [hx, h4] at h2
            have hx0 : x = 0 := by omega
            refine Lib.hid ⟨?_, by rw [h4] at h3; omega⟩
            rw [List.getElem?_eq_getElem (by have := hZl.out; omega), hx, hx0]
          go_loopg [24] k2 (fun gn iv wx => ∃ (i : Nat) (O : List Nat), gn = k2 - i ∧ iv = .int .i64 (i : Int) ∧ i ≤ k2 ∧ Hid (O.length = k2) ∧ Lt32 O ∧ Hid (wx.ownsRow wr.heap.size 62 1 (.slice (some ⟨wr.heap.size, 0, none⟩) k2 k2) k2 (u32s O)) ∧ Hid (2 ^ s * val32 (O.take i) + Z.getD 0 0 % 2 ^ s = val32 (Z.take i) + W32 ^ i * (Z.getD i 0 % 2 ^ s)) ∧ Hid (Keeps [] wr wx))
          case atStart => exact ⟨0, List.replicate k2 0, by omega, by go_num, by omega, Lib.hid (by simp), fun x hx => by have := (List.mem_replicate.1 hx).2; subst this; decide, HOM, Lib.hid (by simp [val32]), HKM⟩
          case round =>
            obtain ⟨i, O, hgi, rfl, hik, hOl, hOt, hO, hOv, hOK⟩ := hrel
            by_cases hlt : i < k2
            · have f1 : (i : Int) < (k2 : Int) := by omega
              obtain ⟨x0, hx0⟩ := some_get (L := Z) (i := i) (by have := hZl.out; omega)
              obtain ⟨x1, hx1⟩ := some_get (L := Z) (i := i + 1) (by have := hZl.out; omega)
              have hx0l := (get_lt hZt hx0).2
              have hx1l := (get_lt hZt hx1).2
              have cz0 := Keeps.cell1 (hZc.out _ _ hx0) hOK.out hgb.out (by simp)
              have co := hO.out.cellAt i (by omega)
              obtain ⟨o, ho⟩ := some_get (L := O) (i := i) (by have := hOl.out; omega)
              rw [u32s_get ho] at co
              have fo := hO.out.frozenAt i
              obtain ⟨m0, hm0⟩ : ∃ m0, m0 = x0 / 2 ^ s := ⟨_, rfl⟩
              have ex : (x0 : Int) / 2 ^ s = (m0 : Int) := by rw [hm0]; simp
              have hm0l : m0 < 4294967296 := by rw [hm0]; exact Nat.lt_of_le_of_lt (Nat.div_le_self _ _) hx0l
              have hst1 := (hO.out.stored i (.int .u32 (m0 : Int))).1
              rw [u32s_set] at hst1
              have HST1 := Lib.hid hst1
              have HK1 := Lib.hid (hOK.out.setCell (p := ⟨_, i, none⟩) (fun h => absurd h (Nat.lt_irrefl _)) (.int .u32 (m0 : Int)))
              have hdm := Nat.mod_add_div x0 (2 ^ s)
              rw [← hm0] at hdm
              have HDM := Lib.hid hdm; have HM0 := Lib.hid hm0; have HX0 := Lib.hid hx0; have HX1 := Lib.hid hx1
              have hOi := Lib.hid (show i < O.length by have := hOl.out; omega)
              clear hdm hm0 hx0 hx1 hst1
              by_cases hsi : 0 < s ∧ i + 1 < k2
              · obtain ⟨hs0, hi1⟩ := hsi
                obtain ⟨sh, z, hz1, hz2, hz3, hz4⟩ := back_word x0 x1 s hx0l hx1l hs0 hs32
                rw [← HM0.out] at hz2
                have co1 := HST1.out.cellAt i (by omega)
                rw [u32s_get (set_drop_get hOi.out)] at co1
                have fo1 := HST1.out.frozenAt i
                have cz1 := Keeps.cell1 (hZc.out _ _ HX1.out) HK1.out hgb.out (by simp)
                have cz2 := Keeps.cell1 (hZc.out _ _ HX1.out) hOK.out hgb.out (by simp)
                have hgB := Nat.ne_of_lt hgb.out
                have hst2 := (HST1.out.stored i (.int .u32 (z : Int))).1
                rw [u32s_set, List.set_set] at hst2
                have HST2 := Lib.hid hst2.drew
                have HK2 := Lib.hid ((HK1.out.setCell (p := ⟨_, i, none⟩) (fun h => absurd h (Nat.lt_irrefl _)) (.int .u32 (z : Int))).drew)
                have hval : 2 ^ s * val32 ((O.set i z).take (i + 1)) + Z.getD 0 0 % 2 ^ s = val32 (Z.take (i + 1)) + W32 ^ (i + 1) * (Z.getD (i + 1) 0 % 2 ^ s) := by
                  refine back_step (x := x0) (z := z) hOv.out (take_succ_get HX0.out) ?_ ?_
                  · rw [take_succ_get (set_drop_get hOi.out), List.take_set_of_le (Nat.le_refl _)]
                  · simp only [List.getD_eq_getElem?_getD, HX0.out, HX1.out, Option.getD_some]
                    exact hz4
                have HVV := Lib.hid hval
                have HZ3 := Lib.hid hz3
                have j1 : (0 : Int) < (s : Int) := by omega
                have j2 : (i : Int) + 1 < (k2 : Int) := by omega
                have j3 : (0 : Int) ≤ 32 - (s : Int) := by omega
                clear hst2 hval hz3 hz4
                go_wp2_with fail
                refine wp_region_txt [0,0,0,1,0,0,0,0,1,0,0,0,0,0,2] (fun _ => True) (by kernel_rfl) (by kernel_rfl) trivial ?_
                simp only [withMarks]
                repeat (first
                  | ((with_reducible refine txt_v (v := ?_) ?_ ?_); (any_goals ((with_reducible refine Yl.mk ?_ ?_); rfl; intro w hSw; (go_simp <;> (try go_bits) <;> (repeat (first | rw [if_pos (by omega)] | rw [if_neg (by omega)])) <;> with_reducible rfl))); try simp only [Act.put, List.setIfInBounds_toArray, List.set_cons_zero, List.set_cons_succ])
                  | ((with_reducible refine txt_u ?_ ?_); rfl; try simp only [Act.put, List.setIfInBounds_toArray, List.set_cons_zero, List.set_cons_succ])
                  | ((with_reducible refine txt_l (v := ?_) ?_ ?_); (any_goals ((with_reducible refine Reads.mk ?_ ?_); rfl; (go_simp <;> (try go_bits) <;> (repeat (first | rw [if_pos (by omega)] | rw [if_neg (by omega)])) <;> with_reducible rfl))); try simp only [Act.put, List.setIfInBounds_toArray, List.set_cons_zero, List.set_cons_succ])
                  | ((with_reducible refine txt_e ?_ ?_); rfl; intro K hK; go_simp; (first | (refine hK _ _ trivial ?_) | ((first | fail); dsimp only; refine hK _ _ trivial ?_)); clear hK K; try simp only [Act.put, List.setIfInBounds_toArray, List.set_cons_zero, List.set_cons_succ]))
                refine txt_nil ?_
                go_wp2_with fail
                go_roundg (k2 - (i + 1))
                case measure => omega
                case rel => exact ⟨i + 1, O.set i z, rfl, by go_num, by omega, Lib.hid (by rw [List.length_set]; exact hOl.out), Lt32.set hOt HZ3.out _, HST2, HVV, HK2⟩
              · have hnx : Hid (Z.getD (i + 1) 0 % 2 ^ s = 0) := by
                  refine Lib.hid ?_
                  by_cases hs0 : s = 0
                  · rw [hs0, Nat.pow_zero, Nat.mod_one]
                  · have hi1 : i + 1 = k2 := by omega
                    rw [hi1, List.getD_eq_getElem?_getD, hZtop.out.1]
                    simp
                have hval : 2 ^ s * val32 ((O.set i m0).take (i + 1)) + Z.getD 0 0 % 2 ^ s = val32 (Z.take (i + 1)) + W32 ^ (i + 1) * (Z.getD (i + 1) 0 % 2 ^ s) := by
                  refine back_step (x := x0) (z := m0) hOv.out (take_succ_get HX0.out) ?_ ?_
                  · rw [take_succ_get (set_drop_get hOi.out), List.take_set_of_le (Nat.le_refl _)]
                  · rw [hnx.out, Nat.mul_zero, Nat.add_zero]
                    simp only [List.getD_eq_getElem?_getD, HX0.out, Option.getD_some]
                    have := HDM.out
                    omega
                have HVV := Lib.hid hval
                have HM0l := Lib.hid (show m0 < W32 by rw [W32_eq]; exact hm0l)
                clear hval
                by_cases hs0 : s = 0
                · have j1 : ¬ (0 : Int) < (s : Int) := by omega
                  clear hs0 hsi
                  go_wp2_with fail
                  go_roundg (k2 - (i + 1))
                  case measure => omega
                  case rel => exact ⟨i + 1, O.set i m0, rfl, by go_num, by omega, Lib.hid (by rw [List.length_set]; exact hOl.out), Lt32.set hOt HM0l.out _, HST1, HVV, HK1⟩
                · have j1 : (0 : Int) < (s : Int) := by omega
                  have j2 : ¬ (i : Int) + 1 < (k2 : Int) := by omega
                  go_wp2_with fail
                  go_roundg (k2 - (i + 1))
                  case measure => omega
                  case rel => exact ⟨i + 1, O.set i m0, rfl, by go_num, by omega, Lib.hid (by rw [List.length_set]; exact hOl.out), Lt32.set hOt HM0l.out _, HST1, HVV, HK1⟩
            · have hi' : i = k2 := by omega
              have f1 : ¬ (i : Int) < (k2 : Int) := by omega
              have hv : Hid (val32 O = val32 A % val32 B) := by
                have h := hOv.out
                have e0 : Z.getD k2 0 = 0 := by rw [List.getD_eq_getElem?_getD, hZtop.out.1]; rfl
                rw [hi', List.take_of_length_le (by have := hOl.out; omega), ← hZtop.out.2, e0] at h
                simp only [Nat.zero_mod, Nat.mul_zero, Nat.add_zero] at h
                have h2 := hZm.out
                rw [Nat.mod_eq_of_lt HZB.out, HYV.out, HNV.out, Nat.mul_mod_mul_right] at h2
                rw [h2] at h
                exact Lib.hid (back_end h (Nat.mod_lt _ (Nat.pow_pos (by omega))))
              obtain ⟨aO, cO, hOe, hN⟩ := N32.of_own hO.out hOt
              have hOx := Value.slice.inj hOe
              rw [← hOx.1, ← hOx.2.2] at hN
              have HN := Lib.hid hN
              have hszw : w.heap.size ≤ w2.heap.size := HK1.out.size
              have HKF := Lib.hid ((((HK1.out.trans1 HK6.out).trans HK67.out (fun x hx hl => by
                simp at hx; subst hx; omega)).trans hZK.out (fun x hx hl => by
                simp at hx; subst hx; rcases hg with h | h <;> omega)).trans1 hOK.out)
              clear hOe hOx hN hi'
              go_wp2_with fail
              refine (lBare_any _ _ _ O _ HN.out (by omega)).mono ?_
              rintro e w9 ⟨⟨n', c9, M', rfl, hN9, hv9, hB9, hn9⟩, rfl⟩
              have hfin : val32 M' = val32 A % val32 B := by rw [hv9]; exact hv.out
              go_wp2_with fail
              go_ret
              exact ⟨⟨_, n', c9, M', rfl, hN9, hfin, hB9, by omega⟩, HKF.out⟩
        | succ j =>
          rw [show ((j + 1 : Nat) : Int) - 1 = (j : Int) by omega]
          have hjk : j + k2 < k + 2 := by omega
          obtain ⟨xa, xb, xc, y1, y2, ul, yl, U, low, gxa, gxb, gxc, gy1, gy2, la, lb, lc, l1, l2, hlow, hZv, hUv, hul, hYv2, hyl, hUb, hxy, hup⟩ := kn_words (m := k2 - 2) (j := j) (by have := HYN.out; omega) (by have := hZl.out; omega) hZt hYl hZb.out
          rw [show j + (k2 - 2) + 2 = j + k2 by omega] at gxa
          rw [show j + (k2 - 2) + 1 = j + k2 - 1 by omega] at gxb
          rw [show j + (k2 - 2) = j + k2 - 2 by omega] at gxc
          rw [show k2 - 2 + 1 = k2 - 1 by omega] at gy1
          rw [show j + (k2 - 2) + 3 = j + k2 + 1 by omega] at hup
          have hyt := hYt.out y1 gy1
          have ca := hZo.out.cellAt (j + k2) (by omega)
          rw [u32s_get gxa] at ca
          have cb := hZo.out.cellAt (j + k2 - 1) (by omega)
          rw [u32s_get gxb] at cb
          have cc := hZo.out.cellAt (j + k2 - 2) (by omega)
          rw [u32s_get gxc] at cc
          have d1 := Keeps.cell1 (hYc.out _ _ gy1) hZK.out hYb (by simp; omega)
          have d2 := Keeps.cell1 (hYc.out _ _ gy2) hZK.out hYb (by simp; omega)
          have CA := Lib.hid ca; have CB := Lib.hid cb; have CC := Lib.hid cc; have D1 := Lib.hid d1; have D2 := Lib.hid d2
          have HZV := Lib.hid hZv; have HUV := Lib.hid hUv; have HUL := Lib.hid hul; have HYV2 := Lib.hid hYv2; have HYL := Lib.hid hyl; have HUB := Lib.hid hUb; have HUP := Lib.hid hup; have HLOW := Lib.hid hlow; have GXA := Lib.hid gxa; have GXC := Lib.hid gxc; have GY1 := Lib.hid gy1; have GY2 := Lib.hid gy2
          have hor := shl_or64 xa xb la lb
          obtain ⟨t, ht⟩ : ∃ t, t = xa * 4294967296 + xb := ⟨_, rfl⟩
          rw [← ht] at hor
          have htl : (t : Int) < 18446744073709551616 := by omega
          have htb : t ≤ y1 * 4294967296 + 4294967295 := by omega
          have HT := Lib.hid ht
          have HUV' := Lib.hid (show U = (t * W32 + xc) * W32 ^ (k2 - 2) + ul by rw [HUV.out, ht, W32_eq])
          clear gxa gxb gxc gy1 gy2 cc d2 hZv hUv hul hYv2 hyl hUb hup hlow ht
          have i2 : (j : Int) + 1 - 1 = (j : Int) := by omega
          have i3 : (0 : Int) ≤ (j : Int) := by omega
          have i4 : (0 : Int) ≤ (j : Int) + (k2 : Int) := by omega
          have i5 : (j : Int) + (k2 : Int) < (k : Int) + 2 := by omega
          have i6 : (0 : Int) ≤ (j : Int) + (k2 : Int) - 1 := by omega
          have i7 : (j : Int) + (k2 : Int) - 1 < (k : Int) + 2 := by omega
          have i8 : ((j : Int) + (k2 : Int) - 1).toNat = j + k2 - 1 := by omega
          have i9 : (0 : Int) ≤ (k2 : Int) - 1 := by omega
          have i10 : (k2 : Int) - 1 < (k2 : Int) := by omega
          have i11 : ((k2 : Int) - 1).toNat = k2 - 1 := by omega
          have i12 : ¬ (y1 : Int) = 0 := by omega
          go_wp2_with fail
          refine wp_region_txt [0,0,0,0,0,1,0,0,0,0,0,0,0,0,1,0,0,0] (fun _ => True) (by kernel_rfl) (by kernel_rfl) trivial ?_
          simp only [withMarks]
          repeat (first
            | ((with_reducible refine txt_v (v := ?_) ?_ ?_); (any_goals ((with_reducible refine Yl.mk ?_ ?_); rfl; intro w hSw; (go_simp <;> (try go_bits) <;> (repeat (first | rw [if_pos (by omega)] | rw [if_neg (by omega)])) <;> with_reducible rfl))); try simp only [Act.put, List.setIfInBounds_toArray, List.set_cons_zero, List.set_cons_succ])
            | ((with_reducible refine txt_u ?_ ?_); rfl; try simp only [Act.put, List.setIfInBounds_toArray, List.set_cons_zero, List.set_cons_succ])
            | ((with_reducible refine txt_l (v := ?_) ?_ ?_); (any_goals ((with_reducible refine Reads.mk ?_ ?_); rfl; (go_simp <;> (try go_bits) <;> (repeat (first | rw [if_pos (by omega)] | rw [if_neg (by omega)])) <;> with_reducible rfl))); try simp only [Act.put, List.setIfInBounds_toArray, List.set_cons_zero, List.set_cons_succ])
            | ((with_reducible refine txt_e ?_ ?_); rfl; intro K hK; go_simp; (first | (refine hK _ _ trivial ?_) | ((first | fail); dsimp only; refine hK _ _ trivial ?_)); clear hK K; try simp only [Act.put, List.setIfInBounds_toArray, List.set_cons_zero, List.set_cons_succ]))
          refine txt_nil ?_
          go_wp2_with fail
          refine wp_region_txt [0,0,0,0,0,1,0,0,0,0,0,0,0,1,0,0,0,0] (fun _ => True) (by kernel_rfl) (by kernel_rfl) trivial ?_
          simp only [withMarks]
          repeat (first
            | ((with_reducible refine txt_v (v := ?_) ?_ ?_); (any_goals ((with_reducible refine Yl.mk ?_ ?_); rfl; intro w hSw; (go_simp <;> (try go_bits) <;> (repeat (first | rw [if_pos (by omega)] | rw [if_neg (by omega)])) <;> with_reducible rfl))); try simp only [Act.put, List.setIfInBounds_toArray, List.set_cons_zero, List.set_cons_succ])
            | ((with_reducible refine txt_u ?_ ?_); rfl; try simp only [Act.put, List.setIfInBounds_toArray, List.set_cons_zero, List.set_cons_succ])
            | ((with_reducible refine txt_l (v := ?_) ?_ ?_); (any_goals ((with_reducible refine Reads.mk ?_ ?_); rfl; (go_simp <;> (try go_bits) <;> (repeat (first | rw [if_pos (by omega)] | rw [if_neg (by omega)])) <;> with_reducible rfl))); try simp only [Act.put, List.setIfInBounds_toArray, List.set_cons_zero, List.set_cons_succ])
            | ((with_reducible refine txt_e ?_ ?_); rfl; intro K hK; go_simp; (first | (refine hK _ _ trivial ?_) | ((first | fail); dsimp only; refine hK _ _ trivial ?_)); clear hK K; try simp only [Act.put, List.setIfInBounds_toArray, List.set_cons_zero, List.set_cons_succ]))
          refine txt_nil ?_
          go_step
          go_step
          go_step
          have hqd : IntKind.u64.wrap ((t : Int) / (y1 : Int)) = ((t / y1 : Nat) : Int) := by
            have h1 : t / y1 ≤ t := Nat.div_le_self _ _
            obtain ⟨qq, hqq⟩ : ∃ qq, qq = t / y1 := ⟨_, rfl⟩
            rw [← Int.natCast_ediv, IntKind.wrap_u64, ← hqq]
            rw [← hqq] at h1
            exact Int.emod_eq_of_lt (by omega) (by omega)
          rw [hqd]
          go_cut [13, 14] (fun qv rv wx => ∃ q r : Nat, qv = .int .u64 (q : Int) ∧ rv = .int .u64 (r : Int) ∧ q < 4294967296 ∧ Hid (U < (q + 1) * val32 Y) ∧ Hid (q * val32 Y < U + val32 Y) ∧ Hid (wx.ownsRow w2.heap.size 62 1 (.slice (some ⟨g, 0, none⟩) (k + 2) cx) (k + 2) (u32s Z)) ∧ Hid (Keeps [g] w7 wx))
          case first =>
            as_aux_lemma =>
            go_wp2_with fail
            go_loopg [13, 14] (t / y1) (fun gn qv rv wx => ∃ q r : Nat, gn = q ∧ qv = .int .u64 (q : Int) ∧ rv = .int .u64 (r : Int) ∧ Hid (t = q * y1 + r) ∧ q ≤ 4294967297 ∧ r < 4294967296 ∧ Hid (U < (q + 1) * val32 Y) ∧ Hid (wx.ownsRow w2.heap.size 62 1 (.slice (some ⟨g, 0, none⟩) (k + 2) cx) (k + 2) (u32s Z)) ∧ Hid (Keeps [g] w7 wx))
            case atStart =>
              refine ⟨t / y1, t % y1, rfl, rfl, by rw [Int.natCast_emod], Lib.hid (by rw [Nat.mul_comm]; exact (Nat.div_add_mod _ _).symm), kn_first htb hyt, Nat.lt_trans (Nat.mod_lt _ (by omega)) l1, Lib.hid ?_, Lib.hid hZo.out.drew.drew, Lib.hid hZK.out.drew.drew⟩
              rw [HUV'.out, HYV2.out]
              exact kn_init HUL.out (by rw [W32_eq]; exact lc) (by omega)
            case round =>
              clear hZo hZK hqd
              obtain ⟨q, r, hgq, rfl, rfl, hqr, hqb, hrb, hqU, hZo1, hZK1⟩ := hrel
              have cc1 := hZo1.out.cellAt (j + k2 - 2) (by omega)
              rw [u32s_get GXC.out] at cc1
              have d11 := Keeps.cell1 (hYc.out _ _ GY1.out) hZK1.out hYb (by simp; omega)
              have d21 := Keeps.cell1 (hYc.out _ _ GY2.out) hZK1.out hYb (by simp; omega)
              have f6 : (0 : Int) ≤ (j : Int) + (k2 : Int) - 2 := by omega
              have f7 : (j : Int) + (k2 : Int) - 2 < (k : Int) + 2 := by omega
              have f8 : ((j : Int) + (k2 : Int) - 2).toNat = j + k2 - 2 := by omega
              have f9 : (0 : Int) ≤ (k2 : Int) - 2 := by omega
              have f10 : (k2 : Int) - 2 < (k2 : Int) := by omega
              have f11 : ((k2 : Int) - 2).toNat = k2 - 2 := by omega
              have hbrk : ∀ p, q = p + 1 → 4294967296 ≤ r + y1 → Hid (p < W32 ∧ p * val32 Y < U + val32 Y) := fun p hp hr => by
                subst hp
                exact Lib.hid (kn_break HUV'.out HYV2.out HYL.out hqr.out (by rw [W32_eq]; omega) (by rw [W32_eq]; exact hr) (by rw [W32_eq]; exact l2) (by omega) HUL.out)
              by_cases hqW : 4294967296 ≤ q
              ·
                as_aux_lemma =>
                obtain ⟨p, rfl⟩ : ∃ p, q = p + 1 := ⟨q - 1, by omega⟩
                have HU' : Hid (U < (p + 1) * val32 Y) := by
                  have h1 : W32 * val32 Y ≤ (p + 1) * val32 Y := Nat.mul_le_mul_right _ (by rw [W32_eq]; exact hqW)
                  exact Lib.hid (Nat.lt_of_lt_of_le HUB.out h1)
                have HT' : Hid (t = p * y1 + (r + y1)) := Lib.hid (by rw [hqr.out, Nat.add_mul]; omega)
                have e1 : (4294967296 : Int) ≤ (p : Int) + 1 := by omega
                have e2 : (p : Int) + 1 - 1 = (p : Int) := by omega
                by_cases hr2 : 4294967296 ≤ r + y1
                · have e3 : (4294967296 : Int) ≤ (r : Int) + (y1 : Int) := by omega
                  have HB := hbrk p rfl hr2
                  clear hbrk
                  go_wp2_with fail
                  refine wp_region_txt [0,0,0,0,0,0,0,0,0,0,0,0,0,0,0,0,0,0,0,0,0,0,0,0] (fun _ => True) (by kernel_rfl) (by kernel_rfl) trivial ?_
                  simp only [withMarks]
                  repeat (first
                    | ((with_reducible refine txt_v (v := ?_) ?_ ?_); (any_goals ((with_reducible refine Yl.mk ?_ ?_); rfl; intro w hSw; (go_simp <;> (try go_bits) <;> (repeat (first | rw [if_pos (by omega)] | rw [if_neg (by omega)])) <;> with_reducible rfl))); try simp only [Act.put, List.setIfInBounds_toArray, List.set_cons_zero, List.set_cons_succ])
                    | ((with_reducible refine txt_u ?_ ?_); rfl; try simp only [Act.put, List.setIfInBounds_toArray, List.set_cons_zero, List.set_cons_succ])
                    | ((with_reducible refine txt_l (v := ?_) ?_ ?_); (any_goals ((with_reducible refine Reads.mk ?_ ?_); rfl; (go_simp <;> (try go_bits) <;> (repeat (first | rw [if_pos (by omega)] | rw [if_neg (by omega)])) <;> with_reducible rfl))); try simp only [Act.put, List.setIfInBounds_toArray, List.set_cons_zero, List.set_cons_succ])
                    | ((with_reducible refine txt_e ?_ ?_); rfl; intro K hK; go_simp; (first | (refine hK _ _ trivial ?_) | ((first | fail); dsimp only; refine hK _ _ trivial ?_)); clear hK K; try simp only [Act.put, List.setIfInBounds_toArray, List.set_cons_zero, List.set_cons_succ]))
                  refine txt_nil ?_
                  go_wp2_with fail
                  go_meet
                  case rel => exact ⟨p, r + y1, by go_num, by go_num, HB.out.1, HU', Lib.hid HB.out.2, Lib.hid hZo1.out.drew, Lib.hid hZK1.out.drew⟩
                · have e3 : ¬ (4294967296 : Int) ≤ (r : Int) + (y1 : Int) := by omega
                  clear hbrk
                  go_wp2_with fail
                  refine wp_region_txt [0,0,0,0,0,0,0,0,0,0,0,0,0,0,0,0,0,0,0,0,0,0,0,0] (fun _ => True) (by kernel_rfl) (by kernel_rfl) trivial ?_
                  simp only [withMarks]
                  repeat (first
                    | ((with_reducible refine txt_v (v := ?_) ?_ ?_); (any_goals ((with_reducible refine Yl.mk ?_ ?_); rfl; intro w hSw; (go_simp <;> (try go_bits) <;> (repeat (first | rw [if_pos (by omega)] | rw [if_neg (by omega)])) <;> with_reducible rfl))); try simp only [Act.put, List.setIfInBounds_toArray, List.set_cons_zero, List.set_cons_succ])
                    | ((with_reducible refine txt_u ?_ ?_); rfl; try simp only [Act.put, List.setIfInBounds_toArray, List.set_cons_zero, List.set_cons_succ])
                    | ((with_reducible refine txt_l (v := ?_) ?_ ?_); (any_goals ((with_reducible refine Reads.mk ?_ ?_); rfl; (go_simp <;> (try go_bits) <;> (repeat (first | rw [if_pos (by omega)] | rw [if_neg (by omega)])) <;> with_reducible rfl))); try simp only [Act.put, List.setIfInBounds_toArray, List.set_cons_zero, List.set_cons_succ])
                    | ((with_reducible refine txt_e ?_ ?_); rfl; intro K hK; go_simp; (first | (refine hK _ _ trivial ?_) | ((first | fail); dsimp only; refine hK _ _ trivial ?_)); clear hK K; try simp only [Act.put, List.setIfInBounds_toArray, List.set_cons_zero, List.set_cons_succ]))
                  refine txt_nil ?_
                  go_upto_if 168 with fail
                  rw [decide_eq_false (by omega : ¬ (4294967296 : Int) ≤ (r : Int) + (y1 : Int))]
                  go_wp2_with fail
                  go_roundg p
                  case measure => omega
                  case rel => exact ⟨p, r + y1, rfl, by go_num, by go_num, HT', by omega, by omega, HU', Lib.hid hZo1.out.drew, Lib.hid hZK1.out.drew⟩
              ·
                as_aux_lemma =>
                by_cases hc : r * 4294967296 + xc < q * y2
                · obtain ⟨p, rfl⟩ : ∃ p, q = p + 1 := ⟨q - 1, by
                    rcases Nat.eq_zero_or_pos q with h | h
                    · subst h; simp at hc
                    · omega⟩
                  have hd0 : decide ((4294967296 : Int) ≤ (p : Int) + 1) = false := decide_eq_false (by omega)
                  have HU' : Hid (U < (p + 1) * val32 Y) := by
                    refine Lib.hid ?_
                    rw [HUV'.out, HYV2.out]
                    exact kn_over hqr.out HUL.out (by rw [W32_eq]; omega)
                  have HT' : Hid (t = p * y1 + (r + y1)) := Lib.hid (by rw [hqr.out, Nat.add_mul]; omega)
                  have hpr : (p + 1) * y2 ≤ 4294967295 * 4294967295 := Nat.mul_le_mul (by omega) (by omega)
                  obtain ⟨pp, hpp⟩ : ∃ pp, pp = (p + 1) * y2 := ⟨_, rfl⟩
                  have hpi : ((p : Int) + 1) * (y2 : Int) = (pp : Int) := by rw [hpp, Int.natCast_mul]; rfl
                  rw [← hpp] at hpr hc
                  have HPP := Lib.hid hpp
                  clear hpp
                  have hor2 := shl_or64 r xc hrb lc
                  obtain ⟨v, hv⟩ : ∃ v, v = r * 4294967296 + xc := ⟨_, rfl⟩
                  rw [← hv] at hor2 hc
                  have HV := Lib.hid hv
                  have hvb : v < 18446744073709551616 := by omega
                  clear hv
                  have e2 : (p : Int) + 1 - 1 = (p : Int) := by omega
                  have hc' : (v : Int) < (pp : Int) := by omega
                  have HB := hbrk p rfl
                  clear hbrk
                  go_wp2_with fail
                  refine wp_region_txt [0,0,0,0,0,0,0,0,1,0,0,0,0,0,0,0,0,0,0,1,0,0,0,0] (fun _ => True) (by kernel_rfl) (by kernel_rfl) trivial ?_
                  simp only [withMarks]
                  repeat (first
                    | ((with_reducible refine txt_v (v := ?_) ?_ ?_); (any_goals ((with_reducible refine Yl.mk ?_ ?_); rfl; intro w hSw; (go_simp <;> (try go_bits) <;> (repeat (first | rw [if_pos (by omega)] | rw [if_neg (by omega)])) <;> with_reducible rfl))); try simp only [Act.put, List.setIfInBounds_toArray, List.set_cons_zero, List.set_cons_succ])
                    | ((with_reducible refine txt_u ?_ ?_); rfl; try simp only [Act.put, List.setIfInBounds_toArray, List.set_cons_zero, List.set_cons_succ])
                    | ((with_reducible refine txt_l (v := ?_) ?_ ?_); (any_goals ((with_reducible refine Reads.mk ?_ ?_); rfl; (go_simp <;> (try go_bits) <;> (repeat (first | rw [if_pos (by omega)] | rw [if_neg (by omega)])) <;> with_reducible rfl))); try simp only [Act.put, List.setIfInBounds_toArray, List.set_cons_zero, List.set_cons_succ])
                    | ((with_reducible refine txt_e ?_ ?_); rfl; intro K hK; go_simp; (first | (refine hK _ _ trivial ?_) | ((first | fail); dsimp only; refine hK _ _ trivial ?_)); clear hK K; try simp only [Act.put, List.setIfInBounds_toArray, List.set_cons_zero, List.set_cons_succ]))
                  refine txt_nil ?_
                  go_upto_if 168 with fail
                  by_cases hr2 : 4294967296 ≤ r + y1
                  · have e3 : (4294967296 : Int) ≤ (r : Int) + (y1 : Int) := by omega
                    have HB' := HB hr2
                    clear HB
                    rw [decide_eq_true e3]
                    go_wp2_with fail
                    go_meet
                    case rel => exact ⟨p, r + y1, by go_num, by go_num, HB'.out.1, HU', Lib.hid HB'.out.2, Lib.hid hZo1.out.drew, Lib.hid hZK1.out.drew⟩
                  · clear HB
                    rw [decide_eq_false (by omega : ¬ (4294967296 : Int) ≤ (r : Int) + (y1 : Int))]
                    go_wp2_with fail
                    go_roundg p
                    case measure => omega
                    case rel => exact ⟨p, r + y1, rfl, by go_num, by go_num, HT', by omega, by omega, HU', Lib.hid hZo1.out.drew, Lib.hid hZK1.out.drew⟩
                · have hd0 : decide ((4294967296 : Int) ≤ (q : Int)) = false := decide_eq_false (by omega)
                  have HQ : Hid (q * val32 Y < U + val32 Y) := by
                    refine Lib.hid ?_
                    rw [HUV'.out, HYV2.out]
                    exact kn_close hqr.out HYL.out (by rw [W32_eq]; omega) (by rw [W32_eq]; omega) (by omega)
                  have hpr : q * y2 ≤ 4294967295 * 4294967295 := Nat.mul_le_mul (by omega) (by omega)
                  obtain ⟨pp, hpp⟩ : ∃ pp, pp = q * y2 := ⟨_, rfl⟩
                  have hpi : (q : Int) * (y2 : Int) = (pp : Int) := by rw [hpp, Int.natCast_mul]
                  rw [← hpp] at hpr hc
                  have HPP := Lib.hid hpp
                  clear hpp
                  have hor2 := shl_or64 r xc hrb lc
                  obtain ⟨v, hv⟩ : ∃ v, v = r * 4294967296 + xc := ⟨_, rfl⟩
                  rw [← hv] at hor2 hc
                  have HV := Lib.hid hv
                  have hvb : v < 18446744073709551616 := by omega
                  clear hv hbrk
                  have hc' : decide ((v : Int) < (pp : Int)) = false := decide_eq_false (by omega)
                  go_wp2_with fail
                  refine wp_region_txt [0,0,0,0,0,0,0,0,1,0,0,0,0,0,0,0,0,0,0,1,0,0,0,0] (fun _ => True) (by kernel_rfl) (by kernel_rfl) trivial ?_
                  simp only [withMarks]
                  repeat (first
                    | ((with_reducible refine txt_v (v := ?_) ?_ ?_); (any_goals ((with_reducible refine Yl.mk ?_ ?_); rfl; intro w hSw; (go_simp <;> (try go_bits) <;> (repeat (first | rw [if_pos (by omega)] | rw [if_neg (by omega)])) <;> with_reducible rfl))); try simp only [Act.put, List.setIfInBounds_toArray, List.set_cons_zero, List.set_cons_succ])
                    | ((with_reducible refine txt_u ?_ ?_); rfl; try simp only [Act.put, List.setIfInBounds_toArray, List.set_cons_zero, List.set_cons_succ])
                    | ((with_reducible refine txt_l (v := ?_) ?_ ?_); (any_goals ((with_reducible refine Reads.mk ?_ ?_); rfl; (go_simp <;> (try go_bits) <;> (repeat (first | rw [if_pos (by omega)] | rw [if_neg (by omega)])) <;> with_reducible rfl))); try simp only [Act.put, List.setIfInBounds_toArray, List.set_cons_zero, List.set_cons_succ])
                    | ((with_reducible refine txt_e ?_ ?_); rfl; intro K hK; go_simp; (first | (refine hK _ _ trivial ?_) | ((first | fail); dsimp only; refine hK _ _ trivial ?_)); clear hK K; try simp only [Act.put, List.setIfInBounds_toArray, List.set_cons_zero, List.set_cons_succ]))
                  refine txt_nil ?_
                  go_wp2_with fail
                  go_meet
                  case rel => exact ⟨q, r, by go_num, by go_num, by omega, hqU, HQ, Lib.hid hZo1.out.drew, Lib.hid hZK1.out.drew⟩
          case rest =>
            obtain ⟨q, r, rfl, rfl, hq, hq1, hq2, hZo2, hZK2⟩ := hcut
            as_aux_lemma =>
            have HQ0 := Lib.hid hq
            have hqW : q < 4294967296 := by rw [← W32_eq]; exact hq
            go_wp2_with fail
            go_loopg [15, 16, 17] k2 (fun gn cv lv iv wx => ∃ (cy b i : Nat) (V : List Nat), gn = k2 - i ∧ cv = .int .u64 (cy : Int) ∧ lv = .int .i64 (-(b : Int)) ∧ iv = .int .i64 (i : Int) ∧ i ≤ k2 ∧ cy < 4294967296 ∧ b ≤ 1 ∧ Hid (V.length = k + 2) ∧ Lt32 V ∧ Hid (wx.ownsRow w2.heap.size 62 1 (.slice (some ⟨g, 0, none⟩) (k + 2) cx) (k + 2) (u32s V)) ∧ Hid (val32 V + W32 ^ j * (q * val32 (Y.take i)) = val32 Z + W32 ^ (j + i) * (cy + b)) ∧ Hid (V.drop (j + i) = Z.drop (j + i)) ∧ Hid (Keeps [g] w7 wx))
            case atStart => exact ⟨0, 0, 0, Z, by omega, by go_num, by simp, by go_num, by omega, by omega, by omega, hZl, hZt, hZo2, Lib.hid (by simp [val32]), Lib.hid rfl, hZK2⟩
            case round =>
              clear hZo hZK hZo2 hZK2 hqd
              obtain ⟨cy, b, i, V, hgi, rfl, rfl, rfl, hik, hcy, hb, hVl, hVt, hVo, hVv, hVd, hVK⟩ := hrel
              by_cases hlt : i < k2
              ·
                as_aux_lemma =>
                have f1 : (i : Int) < (k2 : Int) := by omega
                obtain ⟨y, hy⟩ := some_get (L := Y) (i := i) (by have := HYN.out; omega)
                obtain ⟨x, hx⟩ := some_get (L := V) (i := j + i) (by have := hVl.out; omega)
                have hyl := (get_lt hYl hy).2
                have hxl := (get_lt hVt hx).2
                have dy := Keeps.cell1 (hYc.out _ _ hy) hVK.out hYb (by simp; omega)
                have cx0 := hVo.out.cellAt (j + i) (by omega)
                have fx0 := hVo.out.frozenAt (j + i)
                rw [u32s_get hx, Nat.add_comm j i] at cx0
                rw [Nat.add_comm j i] at fx0
                have HY := Lib.hid hy; have HX := Lib.hid hx
                clear hy hx
                have hpr : q * y ≤ 4294967295 * 4294967295 := Nat.mul_le_mul (by omega) (by omega)
                obtain ⟨pp, hpp⟩ : ∃ pp, pp = q * y := ⟨_, rfl⟩
                have hpi : (q : Int) * (y : Int) = (pp : Int) := by rw [hpp, Int.natCast_mul]
                rw [← hpp] at hpr
                have HPP := Lib.hid hpp
                clear hpp
                obtain ⟨lo, hlo⟩ : ∃ lo, lo = (pp + cy) % 4294967296 := ⟨_, rfl⟩
                obtain ⟨c', hc'⟩ : ∃ c', c' = (pp + cy) / 4294967296 := ⟨_, rfl⟩
                have hloI : ((pp : Int) + (cy : Int)) % 4294967296 = (lo : Int) := by omega
                have hcI : ((pp : Int) + (cy : Int)) / 4294967296 = (c' : Int) := by omega
                have hlol : lo < 4294967296 := by omega
                have hcl : c' < 4294967296 := by omega
                have hpc : Hid (q * y + cy = lo + W32 * c') := Lib.hid (by rw [← HPP.out, W32_eq]; omega)
                obtain ⟨z, b', hz1, hz2, hz3, hb', hz4⟩ := sub_word x lo b hxl hlol hb
                have HZ3 := Lib.hid hz3; have HZ4 := Lib.hid hz4
                have hzl : (z : Int) < 4294967296 := by rw [W32_eq] at hz3; omega
                clear hlo hc' hz3 hz4
                have hst := (hVo.out.stored (i + j) (.int .u32 (z : Int))).1
                rw [u32s_set, show V.set (i + j) z = V.set (j + i) z by rw [Nat.add_comm]] at hst
                have HST := Lib.hid hst
                clear hst
                have f2 : (0 : Int) ≤ (i : Int) + (j : Int) := by omega
                have f3 : (i : Int) + (j : Int) < (k : Int) + 2 := by omega
                go_wp2_with fail
                have hput := val32_put V (j + i) x z HX.out
                have hT : val32 (Y.take (i + 1)) = val32 (Y.take i) + W32 ^ i * y := take_succ_get HY.out
                have hval := ms_step hVv.out hput hpc.out HZ4.out hT
                go_roundg (k2 - (i + 1))
                case measure => omega
                case rel => exact ⟨c', b', i + 1, V.set (j + i) z, rfl, rfl, rfl, by go_num, by omega, hcl, hb', Lib.hid (by rw [List.length_set]; exact hVl.out), Lt32.set hVt HZ3.out _, HST, Lib.hid hval, Lib.hid (drop_set_eq hVd.out), Lib.hid (hVK.out.setCell (fun _ => by simp) _)⟩
              ·
                as_aux_lemma =>
                have hik' : i = k2 := by omega
                have hT : Hid (val32 V + W32 ^ j * (q * val32 Y) = val32 Z + W32 ^ (j + k2) * (cy + b)) := by
                  have h := hVv.out
                  rw [hik', List.take_of_length_le (by have := HYN.out; omega)] at h
                  exact Lib.hid h
                have hD : Hid (V.drop (j + k2) = Z.drop (j + k2)) := by
                  have h := hVd.out
                  rw [hik'] at h
                  exact Lib.hid h
                have hxa : V[j + k2]? = some xa := by rw [drop_get hD.out]; exact GXA.out
                have cx0 := hVo.out.cellAt (j + k2) (by omega)
                have fx0 := hVo.out.frozenAt (j + k2)
                rw [u32s_get hxa] at cx0
                have HXA := Lib.hid hxa
                clear hxa
                have f1 : ¬ (i : Int) < (k2 : Int) := by omega
                obtain ⟨z, gg, hz1, hz2, hz3, hgg, hz4⟩ := sub_word xa cy b la hcy hb
                have hneg : (((xa : Int) - (cy : Int) + -(b : Int)) < 0) ↔ gg = 1 := by omega
                have hput := val32_put V (j + k2) xa z HXA.out
                have hval := Lib.hid (ms_last hT.out hput (by omega : z + cy + b = xa + W32 * gg))
                have hst := (hVo.out.stored (j + k2) (.int .u32 (z : Int))).1
                rw [u32s_set] at hst
                have HST := Lib.hid hst
                have HV1t : Lt32 (V.set (j + k2) z) := Lt32.set hVt hz3 _
                have HV1l : Hid ((V.set (j + k2) z).length = k + 2) := Lib.hid (by rw [List.length_set]; exact hVl.out)
                have HV1d : Hid ((V.set (j + k2) z).drop (j + k2 + 1) = Z.drop (j + k2 + 1)) := Lib.hid (set_drop_above hD.out)
                have HKs := Lib.hid (hVK.out.setCell (p := ⟨g, j + k2, none⟩) (fun _ => by simp) (.int .u32 (z : Int)))
                have hzl : (z : Int) < 4294967296 := by rw [W32_eq] at hz3; omega
                have HZ3 := Lib.hid hz3; have HZ4 := Lib.hid hz4; have HN := Lib.hid hneg
                clear hput hst hik' hVv hVd hz3 hz4 hneg
                by_cases hg1 : gg = 1
                · have hlt0 : decide (((xa : Int) - (cy : Int) + -(b : Int)) < 0) = true := decide_eq_true (HN.out.2 hg1)
                  as_aux_lemma =>
                  have e1 : Hid (z < W32) := HZ3
                  obtain ⟨V1, hV1⟩ : ∃ V1, V1 = V.set (j + k2) z := ⟨_, rfl⟩
                  have hz1' : V1[j + k2]? = some z := by rw [hV1]; exact set_drop_get (by have := hVl.out; omega)
                  have HZZ := Lib.hid hz1'
                  have hval1 : Hid (val32 V1 + W32 ^ j * (q * val32 Y) = val32 Z + W32 ^ (j + k2) * W32) := by
                    have h := hval.out
                    rw [hg1, ← hV1, Nat.mul_one, Nat.pow_succ] at h
                    exact Lib.hid h
                  rw [← hV1] at HST HV1t HV1l HV1d
                  clear hz1' hV1 hval hgg hg1
                  go_wp2_with fail
                  go_loopg [21, 22] k2 (fun gn cv iv wx => ∃ (c i : Nat) (V2 : List Nat), gn = k2 - i ∧ cv = .int .u64 (c : Int) ∧ iv = .int .i64 (i : Int) ∧ i ≤ k2 ∧ c ≤ 1 ∧ Hid (V2.length = k + 2) ∧ Lt32 V2 ∧ Hid (wx.ownsRow w2.heap.size 62 1 (.slice (some ⟨g, 0, none⟩) (k + 2) cx) (k + 2) (u32s V2)) ∧ Hid (val32 V2 + W32 ^ (j + i) * c = val32 V1 + W32 ^ j * val32 (Y.take i)) ∧ Hid (V2.drop (j + i) = V1.drop (j + i)) ∧ Hid (Keeps [g] w7 wx))
                  case atStart => exact ⟨0, 0, V1, by omega, by go_num, by go_num, by omega, by omega, HV1l, HV1t, HST, Lib.hid (by simp [val32]), Lib.hid rfl, HKs⟩
                  case round =>
                    clear hVo HST HKs
                    obtain ⟨c, i2, V2, hgi2, rfl, rfl, hik2, hc1, hV2l, hV2t, hV2o, hV2v, hV2d, hV2K⟩ := hrel
                    by_cases hlt2 : i2 < k2
                    · have f4 : (i2 : Int) < (k2 : Int) := by omega
                      obtain ⟨y, hy⟩ := some_get (L := Y) (i := i2) (by have := HYN.out; omega)
                      obtain ⟨x, hx⟩ := some_get (L := V2) (i := j + i2) (by have := hV2l.out; omega)
                      have hyl := (get_lt hYl hy).2
                      have hxl := (get_lt hV2t hx).2
                      have dy := Keeps.cell1 (hYc.out _ _ hy) hV2K.out hYb (by simp; omega)
                      have cx1 := hV2o.out.cellAt (j + i2) (by omega)
                      have fx1 := hV2o.out.frozenAt (j + i2)
                      rw [u32s_get hx, Nat.add_comm j i2] at cx1
                      rw [Nat.add_comm j i2] at fx1
                      have HY := Lib.hid hy; have HX := Lib.hid hx
                      clear hy hx
                      obtain ⟨z2, hz2'⟩ : ∃ z2, z2 = (c + (x + y)) % 4294967296 := ⟨_, rfl⟩
                      obtain ⟨c2, hc2'⟩ : ∃ c2, c2 = (c + (x + y)) / 4294967296 := ⟨_, rfl⟩
                      have hzI : ((c : Int) + ((x : Int) + (y : Int))) % 4294967296 = (z2 : Int) := by omega
                      have hcI : ((c : Int) + ((x : Int) + (y : Int))) / 4294967296 = (c2 : Int) := by omega
                      have hz2l : z2 < 4294967296 := by omega
                      have hc2l : c2 ≤ 1 := by omega
                      have HS2 : Hid (c + (x + y) = z2 + W32 * c2) := Lib.hid (by rw [W32_eq]; omega)
                      clear hz2' hc2'
                      have hst := (hV2o.out.stored (i2 + j) (.int .u32 (z2 : Int))).1
                      rw [u32s_set, show V2.set (i2 + j) z2 = V2.set (j + i2) z2 by rw [Nat.add_comm]] at hst
                      have HST := Lib.hid hst.drew
                      clear hst
                      have f2 : (0 : Int) ≤ (i2 : Int) + (j : Int) := by omega
                      have f3 : (i2 : Int) + (j : Int) < (k : Int) + 2 := by omega
                      go_wp2_with fail
                      refine wp_region_txt [0,0,0,0,0,0,1,0,0,0,0,1,0,0,0,0] (fun _ => True) (by kernel_rfl) (by kernel_rfl) trivial ?_
                      simp only [withMarks]
                      repeat (first
                        | ((with_reducible refine txt_v (v := ?_) ?_ ?_); (any_goals ((with_reducible refine Yl.mk ?_ ?_); rfl; intro w hSw; (go_simp <;> (try go_bits) <;> (repeat (first | rw [if_pos (by omega)] | rw [if_neg (by omega)])) <;> with_reducible rfl))); try simp only [Act.put, List.setIfInBounds_toArray, List.set_cons_zero, List.set_cons_succ])
                        | ((with_reducible refine txt_u ?_ ?_); rfl; try simp only [Act.put, List.setIfInBounds_toArray, List.set_cons_zero, List.set_cons_succ])
                        | ((with_reducible refine txt_l (v := ?_) ?_ ?_); (any_goals ((with_reducible refine Reads.mk ?_ ?_); rfl; (go_simp <;> (try go_bits) <;> (repeat (first | rw [if_pos (by omega)] | rw [if_neg (by omega)])) <;> with_reducible rfl))); try simp only [Act.put, List.setIfInBounds_toArray, List.set_cons_zero, List.set_cons_succ])
                        | ((with_reducible refine txt_e ?_ ?_); rfl; intro K hK; go_simp; (first | (refine hK _ _ trivial ?_) | ((first | fail); dsimp only; refine hK _ _ trivial ?_)); clear hK K; try simp only [Act.put, List.setIfInBounds_toArray, List.set_cons_zero, List.set_cons_succ]))
                      refine txt_nil ?_
                      go_wp2_with fail
                      have hput := val32_put V2 (j + i2) x z2 HX.out
                      have hT2 : val32 (Y.take (i2 + 1)) = val32 (Y.take i2) + W32 ^ i2 * y := take_succ_get HY.out
                      have hval := ab_step hV2v.out hput HS2.out hT2
                      go_roundg (k2 - (i2 + 1))
                      case measure => omega
                      case rel => exact ⟨c2, i2 + 1, V2.set (j + i2) z2, rfl, by go_num, by go_num, by omega, hc2l, Lib.hid (by rw [List.length_set]; exact hV2l.out), Lt32.set hV2t (by rw [W32_eq]; exact hz2l) _, HST, Lib.hid hval, Lib.hid (drop_set_eq hV2d.out), Lib.hid ((hV2K.out.setCell (fun _ => by simp) _).drew)⟩
                    · have hi2' : i2 = k2 := by omega
                      have f4 : ¬ (i2 : Int) < (k2 : Int) := by omega
                      have hT2 : Hid (val32 V2 + W32 ^ (j + k2) * c = val32 V1 + W32 ^ j * val32 Y) := by
                        have h := hV2v.out
                        rw [hi2', List.take_of_length_le (by have := HYN.out; omega)] at h
                        exact Lib.hid h
                      have hD2 : Hid (V2.drop (j + k2) = V1.drop (j + k2)) := by
                        have h := hV2d.out
                        rw [hi2'] at h
                        exact Lib.hid h
                      have hzz : V2[j + k2]? = some z := by rw [drop_get hD2.out]; exact HZZ.out
                      have cx1 := hV2o.out.cellAt (j + k2) (by omega)
                      have fx1 := hV2o.out.frozenAt (j + k2)
                      rw [u32s_get hzz] at cx1
                      have HZ2 := Lib.hid hzz
                      clear hzz hi2' hV2v hV2d
                      obtain ⟨z3, hz3'⟩ : ∃ z3, z3 = (z + c) % 4294967296 := ⟨_, rfl⟩
                      have hzI : ((z : Int) + (c : Int)) % 4294967296 = (z3 : Int) := by omega
                      have hcm : (c : Int) % 4294967296 = (c : Int) := by omega
                      have hz3l : z3 < 4294967296 := by omega
                      obtain ⟨co, hco⟩ : ∃ co, co = (z + c) / 4294967296 := ⟨_, rfl⟩
                      have hcz : Hid (c + z = z3 + W32 * co ∧ co ≤ 1) := Lib.hid ⟨by rw [W32_eq]; omega, by omega⟩
                      clear hz3' hco
                      have hst := (hV2o.out.stored (j + k2) (.int .u32 (z3 : Int))).1
                      rw [u32s_set] at hst
                      have HST := Lib.hid hst
                      have hput := val32_put V2 (j + k2) z z3 HZ2.out
                      have hz3W : z3 < W32 := by rw [W32_eq]; exact hz3l
                      have hd3 : (V2.set (j + k2) z3).drop (j + k2 + 1) = Z.drop (j + k2 + 1) := by
                        rw [set_drop_above hD2.out]; exact HV1d.out
                      have hKp : 0 < W32 ^ (j + k2) := Nat.pow_pos (by decide)
                      have hres : Hid (val32 (V2.set (j + k2) z3) = low + W32 ^ j * (U % val32 Y)) := by
                        refine Lib.hid (kn_end1 (P := W32 ^ j) (Kn := W32 ^ (j + k2)) (W := W32) hval1.out HZV.out HLOW.out hq1.out hq2.out ?_ hT2.out hput hcz.out.1 ?_ hcz.out.2 ?_ ?_ ?_)
                        · have h := top_zero (i := j + k2 + 1) HV1t (by have := HV1l.out; omega) (by rw [HV1d.out]; exact HUP.out)
                          rw [← Nat.pow_succ]; exact h
                        · have h := top_zero (i := j + k2 + 1) (L := V2.set (j + k2) z3) (Lt32.set hV2t hz3W _) (by rw [List.length_set]; have := hV2l.out; omega) (by rw [hd3]; exact HUP.out)
                          rw [← Nat.pow_succ]; exact h
                        · rw [Nat.pow_add]
                          have h := val32_lt hYl
                          rw [HYN.out] at h
                          exact Nat.mul_le_mul_left _ (Nat.le_of_lt h)
                        · have : W32 ^ (j + k2) * 1 ≤ W32 ^ (j + k2) * W32 := Nat.mul_le_mul_left _ (by decide)
                          omega
                        · have := hYge.out
                          have h2 : 0 < W32 ^ (k2 - 2 + 1) := Nat.pow_pos (by decide)
                          omega
                      clear hst hput hd3
                      have hnx := Lib.hid (kn_next HZV.out HLOW.out (show 0 < val32 Y by
                        have := hYge.out
                        have h2 : 0 < W32 ^ (k2 - 2 + 1) := Nat.pow_pos (by decide)
                        omega))
                      have HW3 := Lib.hid hz3W
                      clear hz3W
                      go_wp2_with fail
                      refine ⟨⟨j, V2.set (j + k2) z3, by go_num, by omega, Lib.hid (by rw [List.length_set]; exact hV2l.out), Lt32.set hV2t HW3.out _, HST, Lib.hid ?_, Lib.hid ?_, Lib.hid (hV2K.out.setCell (fun _ => by simp) _)⟩, ?_⟩
                      · rw [hres.out, hnx.out.1]; exact hZm.out
                      · rw [hres.out]; exact hnx.out.2
                      · show ((j : Int) - 1 + 1).toNat < ((j : Int) + 1).toNat
                        omega
                · have hlt0 : decide (((xa : Int) - (cy : Int) + -(b : Int)) < 0) = false := decide_eq_false (fun h => hg1 (HN.out.1 h))
                  have hg0 : gg = 0 := by omega
                  have hres : Hid (val32 (V.set (j + k2) z) = low + W32 ^ j * (U % val32 Y)) := by
                    have h := hval.out
                    rw [hg0, Nat.mul_zero, Nat.add_zero] at h
                    exact Lib.hid (kn_end0 h HZV.out HLOW.out hq1.out hq2.out)
                  as_aux_lemma =>
                  have hzE : ((xa : Int) - (cy : Int) + -(b : Int)) = (z : Int) := by
                    have h := HZ4.out
                    rw [hg0] at h
                    omega
                  have HZE := Lib.hid hzE
                  clear hz1 hz2 hzE
                  have hnx := Lib.hid (kn_next HZV.out HLOW.out (show 0 < val32 Y by
                    have := hYge.out
                    have h2 : 0 < W32 ^ (k2 - 2 + 1) := Nat.pow_pos (by decide)
                    omega))
                  go_wp2_with fail
                  rw [HZE.out, show (z : Int) % 4294967296 = (z : Int) from Int.emod_eq_of_lt (by omega) hzl]
                  refine ⟨⟨j, V.set (j + k2) z, by go_num, by omega, HV1l, HV1t, HST, Lib.hid ?_, Lib.hid ?_, HKs⟩, ?_⟩
                  · rw [hres.out, hnx.out.1]; exact hZm.out
                  · rw [hres.out]; exact hnx.out.2
                  · show ((j : Int) - 1 + 1).toNat < ((j : Int) + 1).toNat
                    omega

end Go.Proofs.YtnfjmngchapdnaaGreatDoor
