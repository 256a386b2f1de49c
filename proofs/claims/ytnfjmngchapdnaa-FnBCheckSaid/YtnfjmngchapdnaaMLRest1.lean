import Derived.Test.YtnfjmngchapdnaaMSpec1
/- spec.LRest where the other number is greater, or is of one word. -/
namespace Go.Proofs.Ytnfjmngchapdnaa
open Go.RowKit

/-- A number that was returned: x. -/
def RetNum (e : Ending) (w' : World) (k x : Nat) : Prop := ∃ a n c M, e = .returned (.slice a n c) ∧ N32 w' a n c M ∧ val32 M = x ∧ Bare M ∧ n ≤ k

set_option maxRecDepth 100000 in
set_option maxHeartbeats 4000000 in
theorem lRest_less (a a2 : Option Addr) (n c n2 c2 : Nat) (A B : List Nat) (w : World) (hA : N32 w a n c A) (hB : N32 w a2 n2 c2 B) (hn : n ≤ 400) (hn2 : n2 ≤ 400) (hlt : val32 A < val32 B) :
    Calls Try.prog 20 #[.slice a n c, .slice a2 n2 c2] w fun e w' => RetNum e w' n (val32 A % val32 B) ∧ Keeps [] w w' := by
  go_enter Try.func20, Try.ntmps20
  go_wp2_with fail
  refine (lBare_any a n c A _ hA (by omega)).mono ?_
  rintro e w1 ⟨⟨k, c', M, rfl, hM, hMv, hMb, hk⟩, rfl⟩
  go_wp2_with fail
  refine (lBare_any a2 n2 c2 B _ hB (by omega)).mono ?_
  rintro e w1 ⟨⟨k2, c2', N, rfl, hN, hNv, hNb, hk2⟩, rfl⟩
  have HMV := Lib.hid hMv; have HNV := Lib.hid hNv
  clear hMv hNv hA hB
  by_cases h0 : k2 = 0
  · have : N = [] := List.length_eq_zero_iff.1 (by rw [hN.1, h0])
    have h1 := HNV.out
    rw [this] at h1
    simp [val32] at h1
    omega
  · have i0 : ¬ (k2 : Int) = 0 := by omega
    go_wp2_with fail
    refine (lOrder_any a a2 k c' k2 c2' M N _ hM hN (by omega) (by omega)).mono ?_
    rintro e w2 ⟨⟨o, rfl, ho⟩, hk1⟩
    have ho1 : o = -1 := by
      rcases ho with ⟨_, h⟩ | ⟨h, _⟩ | ⟨h, _⟩
      · exact h
      · rw [HMV.out, HNV.out] at h; omega
      · rw [HMV.out, HNV.out] at h; omega
    subst ho1
    clear ho
    go_wp2
    go_ret
    exact ⟨⟨a, k, c', M, rfl, hM.kept hk1, by rw [HMV.out, Nat.mod_eq_of_lt hlt], hMb, hk⟩, hk1⟩

theorem drop_val32 (M : List Nat) (i : Nat) (h : i < M.length) : val32 (M.drop i) = M[i] + W32 * val32 (M.drop (i + 1)) := by
  rw [List.drop_eq_getElem_cons h]; rfl
theorem shl_or64 (r x : Nat) (hr : r < 4294967296) (hx : x < 4294967296) : Go.bits .or .u64 ((r : Int) * 4294967296) (x : Int) = ((r * 4294967296 + x : Nat) : Int) := by
  have h := or_u64 x r 32 (by omega) (by rw [BB_eq]; omega)
  have e : ((2 ^ 32 * r : Nat) : Int) = (r : Int) * 4294967296 := by omega
  have e2 : 2 ^ 32 * r + x = r * 4294967296 + x := by omega
  rw [e, e2] at h
  exact h

set_option maxRecDepth 100000 in
set_option maxHeartbeats 4000000 in
theorem lRest_one (a a2 : Option Addr) (n c n2 c2 : Nat) (A B : List Nat) (w : World) (hA : N32 w a n c A) (hB : N32 w a2 n2 c2 B) (hn : n ≤ 400) (hn2 : n2 ≤ 400) (hge : val32 B ≤ val32 A) (hB0 : 0 < val32 B) (hB1 : val32 B < 4294967296) :
    Calls Try.prog 20 #[.slice a n c, .slice a2 n2 c2] w fun e w' => RetNum e w' 1 (val32 A % val32 B) ∧ Keeps [] w w' := by
  go_enter Try.func20, Try.ntmps20
  go_wp2_with fail
  refine (lBare_any a n c A _ hA (by omega)).mono ?_
  rintro e w1 ⟨⟨k, c', M, rfl, hM, hMv, hMb, hk⟩, rfl⟩
  go_wp2_with fail
  refine (lBare_any a2 n2 c2 B _ hB (by omega)).mono ?_
  rintro e w1 ⟨⟨k2, c2', N, rfl, hN, hNv, hNb, hk2⟩, rfl⟩
  have hk1 : k2 = 1 := by
    rcases Nat.lt_trichotomy k2 1 with h | h | h
    · have : N = [] := List.length_eq_zero_iff.1 (by rw [hN.1]; omega)
      rw [this] at hNv
      simp [val32] at hNv
      omega
    · exact h
    · obtain ⟨j, hj⟩ : ∃ j, N.length = j + 1 := ⟨N.length - 1, by have := hN.1; omega⟩
      have h1 := val32_bare_lt hNb j hj
      have h2 : W32 ^ 1 ≤ W32 ^ j := Nat.pow_le_pow_right (by decide) (by have := hN.1; omega)
      rw [Nat.pow_one] at h2
      have h3 := W32_eq
      omega
  subst hk1
  obtain ⟨y, hy⟩ : ∃ y, N = [y] := List.length_eq_one_iff.1 hN.1
  subst hy
  have hyv : val32 B = y := by rw [← hNv]; simp [val32]
  have HMV := Lib.hid hMv; have HYV := Lib.hid hyv
  rw [hyv] at hge hB0 hB1
  have hord := lOrder_any a a2 k c' 1 c2' M [y] w hM hN (by omega) (by omega)
  rw [hMv, show val32 [y] = y by simp [val32]] at hord
  have HORD := Lib.hid hord
  clear hMv hNv hA hB hyv hord
  go_wp2_with fail
  refine HORD.out.mono ?_
  rintro e w2 ⟨⟨o, rfl, ho⟩, hk1⟩
  have ho1 : o = 0 ∨ o = 1 := by
    rcases ho with ⟨h, _⟩ | ⟨_, h⟩ | ⟨_, h⟩
    · omega
    · exact .inl h
    · exact .inr h
  have ho2 : ¬ o < 0 := by omega
  clear ho ho1
  obtain ⟨f1, f2, f3, f4⟩ := hN
  obtain ⟨b2, o2, rfl, hb2, hc2⟩ := f4 (by simp)
  have cy0 := hc2 0 (by simp)
  simp only [List.getElem_cons_zero, Nat.add_zero] at cy0
  have CY0 := Lib.hid cy0
  obtain ⟨g1, g2, g3, g4⟩ := hM
  have G1 := Lib.hid g1; have G4 := Lib.hid g4; have HK := Lib.hid hk1
  clear f1 f4 hc2 cy0 g1 g4 hk1
  go_wp2
  go_loopw [5, 6] (fun rv iv wr => ∃ r j : Nat, rv = .int .u64 (r : Int) ∧ iv = .int .i64 ((j : Int) - 1) ∧ j ≤ k ∧ r < y ∧ Hid (r = val32 (M.drop j) % y) ∧ Hid (Keeps [] w wr)) (fun _ iv _ => (intOf iv + 1).toNat)
  case atStart => exact ⟨0, k, by go_num, by go_num, Nat.le_refl _, hB0, Lib.hid (by rw [List.drop_of_length_le (by have := G1.out; omega)]; simp [val32]), HK⟩
  case round =>
    obtain ⟨r, j, rfl, rfl, hj, hr, hrv, hkp⟩ := hrel
    cases j with
    | zero =>
      have i0 : ¬ (0 : Int) ≤ ((0 : Nat) : Int) - 1 := by omega
      have hkt : Keeps [] wr (wr.alloc (.cells #[.int .u32 (r : Int)] 46)) := (Keeps.refl _ _).alloc _
      have hNr : N32 (wr.alloc (.cells #[.int .u32 (r : Int)] 46)) (some ⟨wr.heap.size, 0, none⟩) 1 1 [r] := by
        refine ⟨rfl, Nat.le_refl _, fun z hz => by simp at hz; rw [hz, W32_eq]; omega, fun _ => ⟨_, _, rfl, by simp, fun i hi => ?_⟩⟩
        have : i = 0 := by simp at hi; omega
        subst this
        rw [Nat.add_zero, alloc_cell]; rfl
      have HNR := Lib.hid hNr; have HKT := Lib.hid (hkp.out.trans1 hkt)
      clear hkt hNr
      go_wp2_with fail
      refine (lBare_any _ 1 1 [r] _ HNR.out (by omega)).mono ?_
      rintro e w3 ⟨⟨n', c3, M', rfl, hN3, hv3, hB3, hn3⟩, rfl⟩
      have hfin : val32 M' = val32 A % val32 B := by
        rw [hv3, HYV.out, ← HMV.out]
        have := hrv.out
        simpa [val32] using this
      have HF := Lib.hid hfin
      clear hfin hv3
      go_wp2
      go_ret
      exact ⟨⟨_, n', c3, M', rfl, hN3, HF.out, hB3, hn3⟩, HKT.out⟩
    | succ j =>
      obtain ⟨b, o1, rfl, hb, hc⟩ := G4.out (by intro e; have := G1.out; subst e; simp at this; omega)
      have hjM : j < M.length := by have := G1.out; omega
      have cx := Keeps.cell1 (hc j hjM) hkp.out hb (by simp)
      have cy := Keeps.cell1 CY0.out hkp.out hb2 (by simp)
      have hxl := g3 M[j] (List.getElem_mem _)
      obtain ⟨x, hx⟩ : ∃ x, x = M[j] := ⟨_, rfl⟩
      rw [← hx] at cx hxl
      rw [W32_eq] at hxl
      have HX := Lib.hid hx
      clear hx hc
      have hor := shl_or64 r x (by omega) hxl
      obtain ⟨t, ht⟩ : ∃ t, t = r * 4294967296 + x := ⟨_, rfl⟩
      rw [← ht] at hor
      have HT := Lib.hid ht
      have htl : (t : Int) < 18446744073709551616 := by omega
      clear ht
      have i2 : (j : Int) + 1 - 1 = (j : Int) := by omega
      have i3 : (0 : Int) ≤ (j : Int) := by omega
      have i4 : (j : Int) < (k : Int) := by omega
      have i5 : ¬ (y : Int) = 0 := by omega
      go_wp2_with fail
      refine wp_region_txt [0,0,0,0,0,1,0,0,0,0,1,0,0,0] (fun _ => True) (by kernel_rfl) (by kernel_rfl) trivial ?_
      simp only [withMarks]
      repeat (first
        | ((with_reducible refine txt_v (v := ?_) ?_ ?_); (any_goals ((with_reducible refine Yl.mk ?_ ?_); rfl; intro w hSw; (go_simp <;> (try go_bits) <;> (repeat (first | rw [if_pos (by omega)] | rw [if_neg (by omega)])) <;> with_reducible rfl))); try simp only [Act.put, List.setIfInBounds_toArray, List.set_cons_zero, List.set_cons_succ])
        | ((with_reducible refine txt_u ?_ ?_); rfl; try simp only [Act.put, List.setIfInBounds_toArray, List.set_cons_zero, List.set_cons_succ])
        | ((with_reducible refine txt_l (v := ?_) ?_ ?_); (any_goals ((with_reducible refine Reads.mk ?_ ?_); rfl; (go_simp <;> (try go_bits) <;> (repeat (first | rw [if_pos (by omega)] | rw [if_neg (by omega)])) <;> with_reducible rfl))); try simp only [Act.put, List.setIfInBounds_toArray, List.set_cons_zero, List.set_cons_succ])
        | ((with_reducible refine txt_e ?_ ?_); rfl; intro K hK; go_simp; (first | (refine hK _ _ trivial ?_) | ((first | fail); dsimp only; refine hK _ _ trivial ?_)); clear hK K; try simp only [Act.put, List.setIfInBounds_toArray, List.set_cons_zero, List.set_cons_succ]))
      refine txt_nil ?_
      go_wp2
      refine ⟨⟨t % y, j, by rw [Int.natCast_emod], by go_num, by omega, Nat.mod_lt _ hB0, Lib.hid ?_, Lib.hid hkp.out.drew⟩, by simp [intOf]⟩
      rw [drop_val32 M j hjM, ← HX.out, HT.out, hrv.out, W32_eq, Nat.add_comm x, Nat.add_mod, Nat.mul_comm 4294967296, Nat.add_mod (val32 (M.drop (j + 1)) * 4294967296), Nat.mul_mod, Nat.mod_mod, ← Nat.mul_mod]

end Go.Proofs.Ytnfjmngchapdnaa

/- An append to a row of one's own: in place, or in a new block. -/
namespace Go.Proofs.Ytnfjmngchapdnaa
open Go.RowKit

section
variable {P : Program} (w : World)
theorem run_append_place (base : Nat) (t ty e : TypeId) (i : TypeInfo) (z : Value) (size bytes : Nat) (ht : P.underlying t = some (.slice e)) (hi : P.info? e = some i) (hz : i.zero = some z)
    (hsize : i.size = size) (hby : i.bytes = bytes) (hzs : z.cells.size = size) (hsz : 0 < size)
    (g n cap : Nat) (xs : List Value) (hown : w.ownsRow base e size (.slice (some ⟨g, 0, none⟩) n cap) n xs)
    (a : Addr) (m c : Nat) (news : List Value) (hl : news.length = m * size) (hnews : ∀ j u, news[j]? = some u → w.cell? (a.add j) = some u) (h1 : ∀ u ∈ news, u.oneCell' = true)
    (h63 : n + m ≤ maxLen) (hbytes : (n + m) * bytes ≤ 140737488355328) (hbase : base ≤ w.heap.size) :
    ∃ g' cap' w', (Builtin.append_ #[t, t] ty #[.slice (some ⟨g, 0, none⟩) n cap, .slice (some a) m c]).run P w = .ok (.slice (some ⟨g', 0, none⟩) (n + m) cap') w' ∧
      w'.ownsRow base e size (.slice (some ⟨g', 0, none⟩) (n + m) cap') (n + m) (xs ++ news) ∧ w.grownBy w' (some g) ∧ (g' = g ∨ w.heap.size ≤ g') := by
  obtain ⟨v', w', hr, ho, hgr, _⟩ := run_append_own w base t ty e i z size bytes ht hi hz hsize hby hzs hsz _ n xs hown a m c news hl hnews h1 h63 hbytes hbase
  have hsmall : n + m ≤ 9223372036854775807 := by simp only [maxLen] at h63; omega
  subst hsize
  subst hby
  rcases hown.2 with ⟨h, _⟩ | ⟨g2, cap2, cur, h, hbg, hg, hnc, hcm, hcs, htake⟩
  · simp at h
  · simp only [Value.slice.injEq, Option.some.injEq, Addr.mk.injEq, and_true, true_and] at h
    obtain ⟨rfl, rfl⟩ := h
    by_cases hroom : n + m ≤ cap
    · have hfit : n * i.size + news.length ≤ cur.size := by rw [hl, hcs, ← Nat.add_mul]; exact Nat.mul_le_mul_right _ hroom
      have hr2 := run_append_room (P := P) w t ty e i ht hi g n cap cur hg a m c news hl hnews h1 hroom hfit
      have he := hr.symm.trans hr2
      injection he with e1 e2
      subst e1
      exact ⟨g, cap, w', hr, ho, hgr, .inl rfl⟩
    · have holds : ∀ j u, xs[j]? = some u → w.cell? ((⟨g, 0, none⟩ : Addr).add j) = some u := hown.cells (g := g) rfl
      have hr2 := run_append_grow (P := P) w t ty e i z ht hi hz ⟨g, 0, none⟩ n cap xs hown.1 holds a m c news hl hnews (by omega) (by omega) (growslice_fits (by omega) hbytes)
      have he := hr.symm.trans hr2
      injection he with e1 e2
      subst e1
      exact ⟨_, _, w', hr, ho, hgr, .inr (Nat.le_refl _)⟩
theorem wpList_append_place {ops : Array Oper} {rest : List Oper} {o : Oper} {ac : Act} {Q : Exit → Act → World → Prop} (hgd : o.guard = none) (s x : Operand) (t : TypeId)
    (ho : o.op = .call { callee := .builtin .append, args := #[s, x], argTypes := #[t, t] })
    (base : Nat) (e : TypeId) (i : TypeInfo) (z : Value) (size bytes : Nat) (ht : P.underlying t = some (.slice e)) (hi : P.info? e = some i) (hz : i.zero = some z)
    (hsize : i.size = size) (hby : i.bytes = bytes) (hzs : z.cells.size = size) (hsz : 0 < size)
    (g n cap : Nat) (xs : List Value) (hs : ac.eval s = .slice (some ⟨g, 0, none⟩) n cap) (hown : w.ownsRow base e size (.slice (some ⟨g, 0, none⟩) n cap) n xs)
    (ad : Addr) (m c : Nat) (news : List Value) (hx : ac.eval x = .slice (some ad) m c) (hl : news.length = m * size) (hnews : ∀ j u, news[j]? = some u → w.cell? (ad.add j) = some u) (h1 : ∀ u ∈ news, u.oneCell' = true)
    (h63 : n + m ≤ maxLen) (hbytes : (n + m) * bytes ≤ 140737488355328) (hbase : base ≤ w.heap.size)
    (h : ∀ g' cap' w', w'.ownsRow base e size (.slice (some ⟨g', 0, none⟩) (n + m) cap') (n + m) (xs ++ news) → w.grownBy w' (some g) → (g' = g ∨ w.heap.size ≤ g') → wpList P ops Q rest (ac.put o.dst (.slice (some ⟨g', 0, none⟩) (n + m) cap')) w') : wpList P ops Q (o :: rest) ac w :=
  wpList_plain hgd fun K hK => by
    obtain ⟨g', cap', w', hr, h2, h3, h4⟩ := run_append_place (P := P) w base t o.type e i z size bytes ht hi hz hsize hby hzs hsz g n cap xs hown ad m c news hl hnews h1 h63 hbytes hbase
    unfold Oper.wp execOp
    simp only [ho, resolve, invoke, builtin, Sem.run_bind, Sem.run_pure, Result.andThen_ok, List.map_toArray, List.map_cons, List.map_nil, hs, hx, hr]
    exact hK _ _ (h g' cap' w' h2 h3 h4)
end

end Go.Proofs.Ytnfjmngchapdnaa
