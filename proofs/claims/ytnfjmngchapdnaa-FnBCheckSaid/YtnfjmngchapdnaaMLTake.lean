import Derived.Test.YtnfjmngchapdnaaMLProd
import Derived.Test.YtnfjmngchapdnaaMLRest1
import Derived.Test.YtnfjmngchapdnaaMLRest
import Derived.Test.YtnfjmngchapdnaaMPubIs
/- spec: lTake. -/
namespace Go.Proofs.Ytnfjmngchapdnaa
open Go.RowKit

theorem take_step {O A B : List Nat} {i x y z bo bo' : Nat} (hO : i < O.length) (hx : A[i]? = some x) (hz : z + y = x + bo' * W32) (hy : (i < B.length ∧ ∃ u, B[i]? = some u ∧ y = bo + u) ∨ (B.length ≤ i ∧ y = bo))
    (h : val32 (O.take i) + val32 (B.take i) = val32 (A.take i) + W32 ^ i * bo) : val32 ((O.set i z).take (i + 1)) + val32 (B.take (i + 1)) = val32 (A.take (i + 1)) + W32 ^ (i + 1) * bo' := by
  have h1 : val32 ((O.set i z).take (i + 1)) = val32 (O.take i) + W32 ^ i * z := by
    rw [val32_take_succ _ _ (by simp; omega), List.getElem_set_self, List.take_set_of_le (Nat.le_refl _)]
  have hA : i < A.length := (List.getElem?_eq_some_iff.1 hx).1
  have h2 : val32 (A.take (i + 1)) = val32 (A.take i) + W32 ^ i * x := by
    rw [val32_take_succ _ _ hA]
    rw [List.getElem?_eq_getElem hA] at hx
    simp only [Option.some.injEq] at hx
    rw [hx]
  have h3 : val32 (B.take (i + 1)) + W32 ^ i * bo = val32 (B.take i) + W32 ^ i * y := by
    rcases hy with ⟨hB, u, hu, rfl⟩ | ⟨hB, rfl⟩
    · rw [val32_take_succ _ _ hB]
      rw [List.getElem?_eq_getElem hB] at hu
      simp only [Option.some.injEq] at hu
      rw [hu, Nat.mul_add]
      omega
    · rw [List.take_of_length_le (by omega), List.take_of_length_le (by omega)]
  have h4 : W32 ^ i * z + W32 ^ i * y = W32 ^ i * x + W32 ^ (i + 1) * bo' := by
    rw [← Nat.mul_add, hz, Nat.mul_add, Nat.pow_succ, Nat.mul_assoc, Nat.mul_comm bo']
  rw [h1, h2]
  omega

set_option maxRecDepth 100000 in
set_option maxHeartbeats 4000000 in
/-- a less b, where b is not greater; something without a meaning otherwise. -/
theorem lTake_any (a a2 : Option Addr) (n c n2 c2 : Nat) (A B : List Nat) (w : World) (hA : N32 w a n c A) (hB : N32 w a2 n2 c2 B) (hn : n ≤ 1000) (hn2 : n2 ≤ 1000) (hne : A ≠ []) :
    Calls Try.prog 19 #[.slice a n c, .slice a2 n2 c2] w fun e w' =>
      (∃ a' n' c' M, e = .returned (.slice a' n' c') ∧ N32 w' a' n' c' M ∧ Bare M ∧ n' ≤ n ∧ (Bare B → val32 B ≤ val32 A → val32 M = val32 A - val32 B)) ∧ Keeps [] w w' := by
  obtain ⟨i0, hi, hz0, hz1, hz2⟩ := info_parts info_u32
  have hu := und_lnum
  obtain ⟨gA1, gA2, gA3, gA4⟩ := hA
  obtain ⟨gB1, gB2, gB3, gB4⟩ := hB
  obtain ⟨bA, oA, rfl, hbA, hcA⟩ := gA4 hne
  have GA1 := Lib.hid gA1; have GB1 := Lib.hid gB1; have GB4 := Lib.hid gB4
  have HCA := Lib.hid hcA
  have hn0 : 0 < n := by have := List.length_pos_iff.2 hne; omega
  clear gA1 gA4 gB1 gB4 hcA
  go_enter Try.func19, Try.ntmps19
  go_wp2_with (at_builtin; refine wpList_append_own _ rfl _ _ 29 rfl w.heap.size 46 i0 (.int .u32 0) 1 4 hu hi hz0 hz1 hz2 rfl (by decide) _ _ _ rfl (World.ownsRow_made w #[] 0 (Nat.le_refl _) (Nat.zero_le _) rfl) ⟨bA, oA, none⟩ n c (u32s A) rfl ?qc1 ?qc2 ?qc3 ?qc4 ?qc5 ?qc6 ?_)
  case qc1 => simp [u32s, GA1.out]
  case qc2 =>
    intro j u hj
    have hjn : j < A.length := by
      have := (List.getElem?_eq_some_iff.1 hj).1
      simpa [u32s] using this
    rw [Addr.add_lit]
    refine Lib.cell?_alloc_some _ ?_
    rw [HCA.out j hjn]
    simpa [u32s, hjn] using hj
  case qc3 => intro u hu; obtain ⟨x, _, rfl⟩ := List.mem_map.1 hu; rfl
  case qc4 => unfold maxLen; omega
  case qc5 => omega
  case qc6 => simp
  intro v' w1 hown hgrow hnil
  have hk1 : Keeps [] w w1 := Keeps.below (((Below.refl _ w).alloc (Nat.le_refl _) _).grown hgrow (by simp) (by intro k hk; simp [Value.ownBlock] at hk; omega)) rfl
  have hown' : w1.ownsRow w.heap.size 46 1 v' n (u32s A) := by simpa using hown
  clear hown hgrow hnil
  obtain ⟨g, cap, hv', hg⟩ : ∃ g cap, v' = .slice (some ⟨g, 0, none⟩) n cap ∧ w.heap.size ≤ g := by
    rcases hown'.2 with ⟨_, h⟩ | ⟨g, cap, cur, h, h1, _⟩
    · omega
    · exact ⟨g, cap, h, h1⟩
  subst hv'
  have HO1 := Lib.hid hown'; have HK1 := Lib.hid hk1
  clear hown' hk1
  go_wp2
  go_loopw [6, 7] (fun mv ii wr => ∃ (bo i : Nat) (O : List Nat), mv = .int .u64 (bo : Int) ∧ ii = .int .i64 (i : Int) ∧ i ≤ n ∧ bo ≤ 1 ∧ Hid (O.length = n) ∧ Lt32 O ∧ Hid (wr.ownsRow w.heap.size 46 1 (.slice (some ⟨g, 0, none⟩) n cap) n (u32s O)) ∧ Hid (O.drop i = A.drop i) ∧ Hid (val32 (O.take i) + val32 (B.take i) = val32 (A.take i) + W32 ^ i * bo) ∧ Hid (Keeps [] w wr)) (fun _ ii _ => n - (intOf ii).toNat)
  case atStart => exact ⟨0, 0, A, by go_num, by go_num, by omega, by omega, GA1, gA3, HO1, Lib.hid rfl, Lib.hid (by simp [val32]), HK1⟩
  case round =>
    obtain ⟨bo, i, O, rfl, rfl, hin, hbo, hOl, hOlt, hO, hD, hV, hK⟩ := hrel
    by_cases hlt : i < n
    · have i1 : (i : Int) < (n : Int) := by omega
      have hiO : i < O.length := by have := hOl.out; omega
      have hiA : i < A.length := by have := GA1.out; omega
      obtain ⟨x, hx⟩ : ∃ x, x = O[i] := ⟨_, rfl⟩
      have hxl := hOlt O[i] (List.getElem_mem _)
      have co := hO.out.cellAt i (by omega)
      have fo := hO.out.frozenAt i
      rw [show (u32s O)[i]? = some (.int .u32 (O[i] : Int)) by simp [u32s, hiO]] at co
      rw [← hx] at co hxl
      rw [W32_eq] at hxl
      have hxA : A[i]? = some x := by
        have h := congrArg (fun l => l[0]?) hD.out
        simp only [List.getElem?_drop, Nat.add_zero] at h
        rw [← h, hx, List.getElem?_eq_getElem hiO]
      have HXA := Lib.hid hxA
      clear hx hxA
      -- the word that is taken away
      have hy : ∃ y, y ≤ 4294967296 ∧ ((i < B.length ∧ ∃ u, B[i]? = some u ∧ y = bo + u) ∨ (B.length ≤ i ∧ y = bo)) := by
        rcases Nat.lt_or_ge i B.length with h | h
        · have hu := gB3 B[i] (List.getElem_mem _)
          rw [W32_eq] at hu
          exact ⟨bo + B[i], by omega, .inl ⟨h, B[i], List.getElem?_eq_getElem h, rfl⟩⟩
        · exact ⟨bo, by omega, .inr ⟨h, rfl⟩⟩
      obtain ⟨y, hy1, hy2⟩ := hy
      have key : ∀ z bo' : Nat, z + y = x + bo' * 4294967296 → z < 4294967296 → bo' ≤ 1 → Lt32 (O.set i z) ∧ (wr.setCell ⟨g, i, none⟩ (.int .u32 (z : Int))).ownsRow w.heap.size 46 1 (.slice (some ⟨g, 0, none⟩) n cap) n (u32s (O.set i z)) ∧ (O.set i z).drop (i + 1) = A.drop (i + 1) ∧
          val32 ((O.set i z).take (i + 1)) + val32 (B.take (i + 1)) = val32 (A.take (i + 1)) + W32 ^ (i + 1) * bo' ∧ Keeps [] w (wr.setCell ⟨g, i, none⟩ (.int .u32 (z : Int))) := by
        intro z bo' hz hz2 hb
        have hst := (hO.out.stored i (.int .u32 (z : Int))).1
        rw [u32s_set] at hst
        refine ⟨Lt32.set hOlt (by rw [W32_eq]; exact hz2) i, hst, ?_, take_step hiO HXA.out (by rw [W32_eq]; exact hz) hy2 hV.out, hK.out.setCell (p := ⟨g, i, none⟩) (fun h => absurd h (by show ¬ g < _; omega)) _⟩
        have := drop_set_eq (L := O) (M := A) (i := i) (k := 0) (z := z) (by simpa using hD.out)
        simpa using this
      have KEY := Lib.hid key
      clear key
      have HVv := hV
      clear hV hD
      rcases hy2 with ⟨hB, u, hu, rfl⟩ | ⟨hB, hyb⟩
      · obtain ⟨bB, oB, rfl, hbB, hcB⟩ := GB4.out (by rintro rfl; simp at hB)
        have cB := Keeps.cell1 (hcB i hB) hK.out hbB (by simp)
        have hul := gB3 B[i] (List.getElem_mem _)
        rw [W32_eq] at hul
        have hu' : B[i] = u := by rw [List.getElem?_eq_getElem hB] at hu; simpa using hu
        rw [hu'] at cB hul
        have i2 : (i : Int) < (n2 : Int) := by have := GB1.out; omega
        clear hu hu' hcB
        by_cases hlt2 : x < bo + u
        · obtain ⟨h1, h2, h3, h4, h5⟩ := KEY.out (x + 4294967296 - (bo + u)) 1 (by omega) (by omega) (by omega)
          have H1 := Lib.hid h1; have H2 := Lib.hid h2; have H3 := Lib.hid h3; have H4 := Lib.hid h4; have H5 := Lib.hid h5
          clear h1 h2 h3 h4 h5
          have i3 : (x : Int) < ((bo : Int) + (u : Int)) := by omega
          go_wp2
          rw [show IntKind.u64.wrap ((x : Int) - ((bo : Int) + (u : Int))) % 4294967296 = ((x + 4294967296 - (bo + u) : Nat) : Int) by rw [IntKind.wrap_u64]; omega]
          exact ⟨⟨1, i + 1, O.set i (x + 4294967296 - (bo + u)), rfl, by go_num, by omega, by omega, Lib.hid (by rw [List.length_set]; exact hOl.out), H1.out, H2, H3, H4, H5⟩, by simp [intOf]; omega⟩
        · obtain ⟨h1, h2, h3, h4, h5⟩ := KEY.out (x - (bo + u)) 0 (by omega) (by omega) (by omega)
          have H1 := Lib.hid h1; have H2 := Lib.hid h2; have H3 := Lib.hid h3; have H4 := Lib.hid h4; have H5 := Lib.hid h5
          clear h1 h2 h3 h4 h5
          have i3 : ¬ (x : Int) < ((bo : Int) + (u : Int)) := by omega
          go_wp2
          rw [show ((x : Int) - ((bo : Int) + (u : Int))) = ((x - (bo + u) : Nat) : Int) by omega]
          exact ⟨⟨0, i + 1, O.set i (x - (bo + u)), rfl, by go_num, by omega, by omega, Lib.hid (by rw [List.length_set]; exact hOl.out), H1.out, H2, H3, H4, H5⟩, by simp [intOf]; omega⟩
      · have i2 : ¬ (i : Int) < (n2 : Int) := by have := GB1.out; omega
        rw [hyb] at KEY hy1
        clear hyb
        by_cases hlt2 : x < bo
        · obtain ⟨h1, h2, h3, h4, h5⟩ := KEY.out (x + 4294967296 - (bo)) 1 (by omega) (by omega) (by omega)
          have H1 := Lib.hid h1; have H2 := Lib.hid h2; have H3 := Lib.hid h3; have H4 := Lib.hid h4; have H5 := Lib.hid h5
          clear h1 h2 h3 h4 h5
          have i3 : (x : Int) < (bo : Int) := by omega
          go_wp2
          rw [show IntKind.u64.wrap ((x : Int) - (bo : Int)) % 4294967296 = ((x + 4294967296 - (bo) : Nat) : Int) by rw [IntKind.wrap_u64]; omega]
          exact ⟨⟨1, i + 1, O.set i (x + 4294967296 - (bo)), rfl, by go_num, by omega, by omega, Lib.hid (by rw [List.length_set]; exact hOl.out), H1.out, H2, H3, H4, H5⟩, by simp [intOf]; omega⟩
        · obtain ⟨h1, h2, h3, h4, h5⟩ := KEY.out (x - (bo)) 0 (by omega) (by omega) (by omega)
          have H1 := Lib.hid h1; have H2 := Lib.hid h2; have H3 := Lib.hid h3; have H4 := Lib.hid h4; have H5 := Lib.hid h5
          clear h1 h2 h3 h4 h5
          have i3 : ¬ (x : Int) < (bo : Int) := by omega
          go_wp2
          rw [show ((x : Int) - (bo : Int)) = ((x - (bo) : Nat) : Int) by omega]
          exact ⟨⟨0, i + 1, O.set i (x - (bo)), rfl, by go_num, by omega, by omega, Lib.hid (by rw [List.length_set]; exact hOl.out), H1.out, H2, H3, H4, H5⟩, by simp [intOf]; omega⟩
    · have hin' : i = n := by omega
      have i1 : ¬ (i : Int) < (n : Int) := by omega
      obtain ⟨a', c', he, hN⟩ := N32.of_own hO.out hOlt
      simp only [Value.slice.injEq] at he
      obtain ⟨he1, _, he2⟩ := he
      subst he1 he2
      have HN := Lib.hid hN; have HI := Lib.hid hin'
      clear hN hin'
      go_wp2_with fail
      refine (lBare_any _ n _ O _ HN.out hn).mono ?_
      rintro e w2 ⟨⟨n', c', M, rfl, hM, hMv, hMb, hMn⟩, rfl⟩
      have HM := Lib.hid hM; have HMV := Lib.hid hMv; have HMB := Lib.hid hMb
      clear hM hMv hMb
      go_wp2
      go_ret
      refine ⟨⟨_, n', _, M, rfl, HM.out, HMB.out, hMn, fun hb hle => ?_⟩, hK.out⟩
      rw [HMV.out]
      have h := hV.out
      have hBl : B.length ≤ n := by
        rcases Nat.lt_or_ge n B.length with h1 | h1
        · exfalso
          have h2 := val32_bare_lt hb (B.length - 1) (by omega)
          have h3 := val32_lt gA3
          have h4 : W32 ^ A.length ≤ W32 ^ (B.length - 1) := Nat.pow_le_pow_right (by rw [W32_eq]; omega) (by have := GA1.out; omega)
          omega
        · exact h1
      rw [HI.out, List.take_of_length_le (by have := hOl.out; omega), List.take_of_length_le (by omega), List.take_of_length_le (by have := GA1.out; omega)] at h
      have hOlt' := val32_lt hOlt
      rw [hOl.out] at hOlt'
      have b01 : bo = 0 ∨ bo = 1 := by omega
      rcases b01 with rfl | rfl
      · omega
      · omega

end Go.Proofs.Ytnfjmngchapdnaa

/- spec's numbers without their words: contracts of LOrder, LRest, LProduct, lTake, LBits, LPower, lOne, bOdd, LOf over values. -/
namespace Go.Proofs.Ytnfjmngchapdnaa
open Go.RowKit

/-- A number of the reference: a slice of words, at most k, none of them 0 at the end, of value x. -/
def Num (k : Nat) (w : World) (a : Option Addr) (n c x : Nat) : Prop := ∃ L, N32 w a n c L ∧ Bare L ∧ val32 L = x ∧ n ≤ k
theorem Num.kept {k : Nat} {w w' : World} {a : Option Addr} {n c x : Nat} (h : Num k w a n c x) (hk : Keeps [] w w') : Num k w' a n c x := by
  obtain ⟨L, h1, h2, h3, h4⟩ := h
  exact ⟨L, h1.kept hk, h2, h3, h4⟩
theorem Num.le {k k' : Nat} {w : World} {a : Option Addr} {n c x : Nat} (h : Num k w a n c x) (hk : k ≤ k') : Num k' w a n c x := by
  obtain ⟨L, h1, h2, h3, h4⟩ := h
  exact ⟨L, h1, h2, h3, by omega⟩
/-- A number's words lie in no block that holds anything else. -/
theorem Num.keepsB {k : Nat} {w w' : World} {a : Option Addr} {n c x B : Nat} {C : Array Value} {t : TypeId} {z : Nat × Nat} (h : Num k w a n c x) (hk : Keeps [B] w w') (hb : w.heap[B]? = some (.cells C t z)) (hC : ∀ (j : Nat) (y : Int), C[j]? ≠ some (.int .u32 y)) : Num k w' a n c x := by
  obtain ⟨L, ⟨h1, h2, h3, h4⟩, h5, h6, h7⟩ := h
  refine ⟨L, ⟨h1, h2, h3, fun hL => ?_⟩, h5, h6, h7⟩
  obtain ⟨b, o, he, hb2, hB⟩ := h4 hL
  have hne : b ≠ B := by
    rintro rfl
    have hl : 0 < L.length := List.length_pos_iff.2 hL
    have h8 := hB 0 hl
    have h9 : w.cell? ⟨b, o + 0, none⟩ = C[o + 0]? := by simp [World.cell?, hb]
    rw [h9] at h8
    exact hC _ _ h8
  exact ⟨b, o, he, Nat.lt_of_lt_of_le hb2 hk.size, fun i hi => Keeps.cell1 (hB i hi) hk hb2 (by simpa using hne)⟩
theorem no_u32 (a0 a1 a2 a3 a4 a5 a6 : Option Addr) (n0 c0 n1 c1 n2 c2 n3 c3 n4 c4 n5 c5 n6 c6 : Nat) : ∀ (j : Nat) (y : Int), (#[.slice a0 n0 c0, .slice a1 n1 c1, .slice a2 n2 c2, .slice a3 n3 c3, .slice a4 n4 c4, .slice a5 n5 c5, .slice a6 n6 c6] : Array Value)[j]? ≠ some (.int .u32 y) := by
  intro j y h
  have h2 : j < 7 := (Array.getElem?_eq_some_iff.1 h).1
  obtain rfl | rfl | rfl | rfl | rfl | rfl | rfl : j = 0 ∨ j = 1 ∨ j = 2 ∨ j = 3 ∨ j = 4 ∨ j = 5 ∨ j = 6 := by omega
  all_goals simp at h
theorem num_lit (w : World) (v : Nat) (h0 : v ≠ 0) (hv : v < 4294967296) : Num 1 (w.alloc (.cells #[.int .u32 (v : Int)] 46)) (some ⟨w.heap.size, 0, none⟩) 1 1 v := by
  refine ⟨[v], ⟨rfl, Nat.le_refl _, fun x hx => by simp at hx; subst hx; rw [W32_eq]; exact hv, fun _ => ⟨w.heap.size, 0, rfl, by simp, fun i hi => ?_⟩⟩, ?_, by simp [val32], Nat.le_refl _⟩
  · have : i = 0 := by simp at hi; omega
    subst this
    rw [Nat.add_zero, alloc_cell]; rfl
  · intro k hk h
    have : k = 0 := by simp at hk; omega
    subst this
    simp at h
    exact h0 h
theorem Num.pos {k : Nat} {w : World} {a : Option Addr} {n c x : Nat} (h : Num k w a n c x) (hx : x ≠ 0) : n ≠ 0 := by
  obtain ⟨L, ⟨h1, _⟩, h5, h6, _⟩ := h
  rintro rfl
  have : L = [] := List.length_eq_zero_iff.1 h1
  subst this
  exact hx h6.symm
theorem Num.zero {k : Nat} {w : World} {a : Option Addr} {n c : Nat} (h : Num k w a n c 0) : n = 0 := by
  obtain ⟨L, ⟨h1, _⟩, h5, h6, _⟩ := h
  rcases Nat.eq_zero_or_pos n with h | h
  · exact h
  · have h7 := val32_bare_lt h5 (n - 1) (by omega)
    have h8 : 0 < W32 ^ (n - 1) := Nat.pow_pos (by rw [W32_eq]; omega)
    omega
theorem Num.blen {k : Nat} {w : World} {a : Option Addr} {n c x : Nat} (h : Num k w a n c x) : blen x ≤ 32 * k := by
  obtain ⟨L, ⟨h1, _, h3, _⟩, _, h6, h7⟩ := h
  refine blen_le_of_lt ?_
  rw [← h6]
  refine Nat.lt_of_lt_of_le (val32_lt h3) ?_
  rw [W32_pow]
  exact Nat.pow_le_pow_right (by omega) (by omega)
def RetN (e : Ending) (w' : World) (k x : Nat) : Prop := ∃ a n c, e = .returned (.slice a n c) ∧ Num k w' a n c x
theorem RetNum.toN {e : Ending} {w' : World} {k x : Nat} (h : RetNum e w' k x) : RetN e w' k x := by
  obtain ⟨a, n, c, M, rfl, h1, h2, h3, h4⟩ := h
  exact ⟨a, n, c, rfl, M, h1, h3, h2, h4⟩
section
variable {w : World} {k k2 : Nat} {a a2 : Option Addr} {n c n2 c2 x y : Nat}
theorem num_order (h : Num k w a n c x) (h2 : Num k2 w a2 n2 c2 y) (hk : k ≤ 400) (hk2 : k2 ≤ 400) :
    Calls Try.prog 18 #[.slice a n c, .slice a2 n2 c2] w fun e w' => (∃ o, e = .returned (.int .i64 o) ∧ OrdR x y o) ∧ Keeps [] w w' := by
  obtain ⟨A, hA, _, rfl, _⟩ := h
  obtain ⟨B, hB, _, rfl, _⟩ := h2
  exact lOrder_any a a2 n c n2 c2 A B w hA hB (by omega) (by omega)
theorem num_lt (h : Num k w a n c x) (h2 : Num k2 w a2 n2 c2 y) (hk : k ≤ 400) (hk2 : k2 ≤ 400) (hlt : x < y) :
    Calls Try.prog 18 #[.slice a n c, .slice a2 n2 c2] w fun e w' => e = .returned (.int .i64 (-1)) ∧ Keeps [] w w' :=
  (num_order h h2 hk hk2).mono (by
    rintro e w' ⟨⟨o, rfl, ho⟩, hk⟩
    rcases ho with ⟨_, rfl⟩ | ⟨h, _⟩ | ⟨h, _⟩
    · exact ⟨rfl, hk⟩
    · omega
    · omega)
theorem num_nlt (h : Num k w a n c x) (h2 : Num k2 w a2 n2 c2 y) (hk : k ≤ 400) (hk2 : k2 ≤ 400) (hlt : ¬ x < y) :
    Calls Try.prog 18 #[.slice a n c, .slice a2 n2 c2] w fun e w' => (∃ o : Int, e = .returned (.int .i64 o) ∧ (decide (o < 0) = false ∧ 0 ≤ o)) ∧ Keeps [] w w' :=
  (num_order h h2 hk hk2).mono (by
    rintro e w' ⟨⟨o, rfl, ho⟩, hk⟩
    rcases ho with ⟨h, _⟩ | ⟨h, rfl⟩ | ⟨h, rfl⟩
    · omega
    · exact ⟨⟨_, rfl, by decide, by omega⟩, hk⟩
    · exact ⟨⟨_, rfl, by decide, by omega⟩, hk⟩)
theorem num_eq (h : Num k w a n c x) (h2 : Num k2 w a2 n2 c2 y) (hk : k ≤ 400) (hk2 : k2 ≤ 400) (he : x = y) :
    Calls Try.prog 18 #[.slice a n c, .slice a2 n2 c2] w fun e w' => e = .returned (.int .i64 0) ∧ Keeps [] w w' :=
  (num_order h h2 hk hk2).mono (by
    rintro e w' ⟨⟨o, rfl, ho⟩, hk⟩
    rcases ho with ⟨h, _⟩ | ⟨_, rfl⟩ | ⟨h, _⟩
    · omega
    · exact ⟨rfl, hk⟩
    · omega)
theorem num_neq (h : Num k w a n c x) (h2 : Num k2 w a2 n2 c2 y) (hk : k ≤ 400) (hk2 : k2 ≤ 400) (he : ¬ x = y) :
    Calls Try.prog 18 #[.slice a n c, .slice a2 n2 c2] w fun e w' => (∃ o : Int, e = .returned (.int .i64 o) ∧ (o == 0) = false) ∧ Keeps [] w w' :=
  (num_order h h2 hk hk2).mono (by
    rintro e w' ⟨⟨o, rfl, ho⟩, hk⟩
    rcases ho with ⟨_, rfl⟩ | ⟨h, _⟩ | ⟨_, rfl⟩
    · exact ⟨⟨_, rfl, by decide⟩, hk⟩
    · omega
    · exact ⟨⟨_, rfl, by decide⟩, hk⟩)
theorem num_rest (h : Num k w a n c x) (h2 : Num k2 w a2 n2 c2 y) (hk : k ≤ 400) (hk2 : k2 ≤ 400) (hy : 0 < y) :
    Calls Try.prog 20 #[.slice a n c, .slice a2 n2 c2] w fun e w' => RetN e w' k2 (x % y) ∧ Keeps [] w w' := by
  obtain ⟨A, hA, _, rfl, _⟩ := h
  obtain ⟨B, hB, _, rfl, hn2⟩ := h2
  refine (lRest_any a a2 n c n2 c2 A B w hA hB (by omega) (by omega) hy).mono ?_
  rintro e w' ⟨⟨a', n', c', M, rfl, h1, h2, h3, h4⟩, hk⟩
  exact ⟨⟨a', n', c', rfl, M, h1, h3, h2, by omega⟩, hk⟩
theorem num_prod (h : Num k w a n c x) (h2 : Num k2 w a2 n2 c2 y) (hk : k ≤ 200) (hk2 : k2 ≤ 200) :
    Calls Try.prog 22 #[.slice a n c, .slice a2 n2 c2] w fun e w' => RetN e w' (k + k2 + 1) (x * y) ∧ Keeps [] w w' := by
  obtain ⟨A, hA, _, rfl, hn⟩ := h
  obtain ⟨B, hB, _, rfl, hn2⟩ := h2
  refine (lProduct_any a a2 n c n2 c2 A B w hA hB (by omega) (by omega)).mono ?_
  rintro e w' ⟨⟨a', n', c', M, rfl, h1, h2, h3, h4⟩, hk⟩
  exact ⟨⟨a', n', c', rfl, M, h1, h3, h2, by omega⟩, hk⟩
theorem num_take (h : Num k w a n c x) (h2 : Num k2 w a2 n2 c2 y) (hk : k ≤ 400) (hk2 : k2 ≤ 400) (hx : x ≠ 0) (hle : y ≤ x) :
    Calls Try.prog 19 #[.slice a n c, .slice a2 n2 c2] w fun e w' => RetN e w' k (x - y) ∧ Keeps [] w w' := by
  obtain ⟨A, hA, _, rfl, hn⟩ := h
  obtain ⟨B, hB, hb, rfl, hn2⟩ := h2
  refine (lTake_any a a2 n c n2 c2 A B w hA hB (by omega) (by omega) (by rintro rfl; exact hx rfl)).mono ?_
  rintro e w' ⟨⟨a', n', c', M, rfl, h1, h2, h3, h4⟩, hk⟩
  exact ⟨⟨a', n', c', rfl, M, h1, h2, h4 hb hle, by omega⟩, hk⟩
/-- Whatever it is: a number. -/
theorem num_takeW (h : Num k w a n c x) (h2 : Num k2 w a2 n2 c2 y) (hk : k ≤ 400) (hk2 : k2 ≤ 400) (hx : x ≠ 0) :
    Calls Try.prog 19 #[.slice a n c, .slice a2 n2 c2] w fun e w' => (∃ z, RetN e w' k z ∧ (y ≤ x → z = x - y)) ∧ Keeps [] w w' := by
  obtain ⟨A, hA, _, rfl, hn⟩ := h
  obtain ⟨B, hB, hb, rfl, hn2⟩ := h2
  refine (lTake_any a a2 n c n2 c2 A B w hA hB (by omega) (by omega) (by rintro rfl; exact hx rfl)).mono ?_
  rintro e w' ⟨⟨a', n', c', M, rfl, h1, h2, h3, h4⟩, hk⟩
  exact ⟨⟨val32 M, ⟨a', n', c', rfl, M, h1, h2, rfl, by omega⟩, h4 hb⟩, hk⟩
theorem num_bits (h : Num k w a n c x) (hk : k ≤ 400) :
    Calls Try.prog 23 #[.slice a n c] w fun e w' => e = .returned (.int .i64 (blen x : Int)) ∧ w = w' := by
  obtain ⟨A, hA, _, rfl, _⟩ := h
  exact lBits_any a n c A w hA (by omega)
theorem num_one (h : Num k w a n c x) (he : x = 1) :
    Calls Try.prog 17 #[.slice a n c] w fun e w' => e = .returned (.bool true) ∧ w = w' := by
  obtain ⟨A, hA, hb, rfl, _⟩ := h
  refine (lOne_any a n c A w hA hb).mono ?_
  rintro e w' ⟨⟨r, rfl, hr⟩, rfl⟩
  rw [hr.2 he]; exact ⟨rfl, rfl⟩
theorem num_none (h : Num k w a n c x) (he : ¬ x = 1) :
    Calls Try.prog 17 #[.slice a n c] w fun e w' => e = .returned (.bool false) ∧ w = w' := by
  obtain ⟨A, hA, hb, rfl, _⟩ := h
  refine (lOne_any a n c A w hA hb).mono ?_
  rintro e w' ⟨⟨r, rfl, hr⟩, rfl⟩
  cases r
  · exact ⟨rfl, rfl⟩
  · exact absurd (hr.1 rfl) he
theorem num_odd (h : Num k w a n c x) :
    Calls Try.prog 16 #[.slice a n c] w fun e w' => (∃ r, e = .returned (.bool r) ∧ (r = true ↔ x % 2 = 1)) ∧ w = w' := by
  obtain ⟨A, hA, hb, rfl, _⟩ := h
  exact bOdd_any a n c A w hA
theorem num_power {a3 : Option Addr} {n3 c3 k3 z : Nat} (h : Num k w a n c x) (h2 : Num k2 w a2 n2 c2 y) (h3 : Num k3 w a3 n3 c3 z) (hk : k ≤ 400) (hk2 : k2 ≤ 400) (hk3 : k3 ≤ 100) (hz : 1 < z) :
    Calls Try.prog 21 #[.slice a n c, .slice a2 n2 c2, .slice a3 n3 c3] w fun e w' => RetN e w' k3 (x ^ y % z) ∧ Keeps [] w w' := by
  obtain ⟨A, hA, _, rfl, _⟩ := h
  obtain ⟨B, hB, _, rfl, hn2⟩ := h2
  obtain ⟨D, hD, _, rfl, hn3⟩ := h3
  refine (lPower_any a a2 a3 n c n2 c2 n3 c3 A B D w hA hB hD (by omega) (by omega) (by omega) hz).mono ?_
  rintro e w' ⟨⟨a', n', c', M, rfl, h1, h2, h3, h4⟩, hk⟩
  exact ⟨⟨a', n', c', rfl, M, h1, h3, h2, by omega⟩, hk⟩
end
/-- The string of bytes. -/
def strB (L : List Nat) : ByteArray := ⟨(L.map UInt8.ofNat).toArray⟩
theorem strB_of {s : ByteArray} {L : List Nat} (h : bytesOf s = L) : s = strB L := by
  subst h
  unfold strB bytesOf
  rw [List.map_map]
  have e : (UInt8.ofNat ∘ UInt8.toNat) = id := by funext x; simp
  rw [e, List.map_id]
theorem convert_strB {w : World} {a : Option Addr} {m c : Nat} {L : List Nat} (h : SlB w a m c L) :
    (convert 22 9 (.slice a m c)).run Try.prog w = .ok (.string (strB L)) w := by
  obtain ⟨s, h1, h2, _⟩ := convert_bytes h
  rw [← strB_of h2]; exact h1
theorem strB_val {w : World} {a : Option Addr} {m c : Nat} {L : List Nat} (h : SlB w a m c L) : bytesOf (strB L) = L ∧ (strB L).size = m := by
  obtain ⟨s, _, h2, h3⟩ := convert_bytes h
  rw [← strB_of h2]; exact ⟨h2, h3⟩
theorem num_of {w w' : World} {a : Option Addr} {m c : Nat} {L : List Nat} (h : SlB w a m c L) (hm : m ≤ 250) :
    Calls Try.prog 15 #[.string (strB L)] w' fun e w2 => RetN e w2 63 (bval L) ∧ Keeps [] w' w2 := by
  obtain ⟨h1, h2⟩ := strB_val h
  refine (lOf_any (strB L) w' (by omega)).mono ?_
  rintro e w2 ⟨⟨a', n', c', M, rfl, h3, h4, h5, h6⟩, hk⟩
  exact ⟨⟨a', n', c', rfl, M, h3, h5, by rw [h4, h1], by omega⟩, hk⟩

end Go.Proofs.Ytnfjmngchapdnaa
