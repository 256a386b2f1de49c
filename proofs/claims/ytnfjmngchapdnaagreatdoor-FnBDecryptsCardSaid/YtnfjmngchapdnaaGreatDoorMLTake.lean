import Derived.Test.YtnfjmngchapdnaaGreatDoorMLProd
/- spec: lTake. -/
namespace Go.Proofs.YtnfjmngchapdnaaGreatDoor
open Go.RowKit

theorem take_step {O A B : List Nat} {i x y z bo bo' : Nat} (hO : i < O.length) (hx : A[i]? = some x) (hz : z + y = x + bo' * W32) (hy : (i < B.length ∧ ∃ u, B[i]? = some u ∧ y = bo + u) ∨ (B.length ≤ i ∧ y = bo))
    (h : val32 (O.take i) + val32 (B.take i) = val32 (A.take i) + W32 ^ i * bo) : val32 ((O.set i z).take (i + 1)) + val32 (B.take (i + 1)) = val32 (A.take (i + 1)) + W32 ^ (i + 1) * bo' := by
  have h1 : val32 ((O.set i z).take (i + 1)) = val32 (O.take i) + W32 ^ i * z := by
    rw [val32_take_succ _ _ (by simp; omega), List.getElem_set_self, List.take_set_of_le (Nat.le_refl _)]
  have hA : i < A.length := (List.getElem?_eq_some_iff.1 hx).1
  have h2 : val32 (A.take (i + 1)) = val32 (A.take i) + W32 ^ i * x := by
    rw [val32_take_succ _ _ hA]
    rw [List.getElem?_eq_getElem hA] at hx
    simp only [Option.some.injEq] at hx
    rw [hx]
  have h3 : val32 (B.take (i + 1)) + W32 ^ i * bo = val32 (B.take i) + W32 ^ i * y := by
    rcases hy with ⟨hB, u, hu, rfl⟩ | ⟨hB, rfl⟩
    · rw [val32_take_succ _ _ hB]
      rw [List.getElem?_eq_getElem hB] at hu
      simp only [Option.some.injEq] at hu
      rw [hu, Nat.mul_add]
      omega
    · rw [List.take_of_length_le (by omega), List.take_of_length_le (by omega)]
  have h4 : W32 ^ i * z + W32 ^ i * y = W32 ^ i * x + W32 ^ (i + 1) * bo' := by
    rw [← Nat.mul_add, hz, Nat.mul_add, Nat.pow_succ, Nat.mul_assoc, Nat.mul_comm bo']
  rw [h1, h2]
  omega

set_option maxRecDepth 100000 in
set_option maxHeartbeats 4000000 in
/-- a less b, where b is not greater; something without a meaning otherwise. -/
theorem lTake_any (a a2 : Option Addr) (n c n2 c2 : Nat) (A B : List Nat) (w : World) (hA : N32 w a n c A) (hB : N32 w a2 n2 c2 B) (hn : n ≤ 1000) (hn2 : n2 ≤ 1000) (hne : A ≠ []) :
    Calls Tryz.prog 31 #[.slice a n c, .slice a2 n2 c2] w fun e w' =>
      (∃ a' n' c' M, e = .returned (.slice a' n' c') ∧ N32 w' a' n' c' M ∧ Bare M ∧ n' ≤ n ∧ (Bare B → val32 B ≤ val32 A → val32 M = val32 A - val32 B)) ∧ Keeps [] w w' := by
  obtain ⟨i0, hi, hz0, hz1, hz2⟩ := info_parts info_u32
  have hu := und_lnum
  obtain ⟨gA1, gA2, gA3, gA4⟩ := hA
  obtain ⟨gB1, gB2, gB3, gB4⟩ := hB
  obtain ⟨bA, oA, rfl, hbA, hcA⟩ := gA4 hne
  have GA1 := Lib.hid gA1; have GB1 := Lib.hid gB1; have GB4 := Lib.hid gB4
  have HCA := Lib.hid hcA
  have hn0 : 0 < n := by have := List.length_pos_iff.2 hne; omega
  clear gA1 gA4 gB1 gB4 hcA
  go_enter Tryz.func31, Tryz.ntmps31
  go_wp2_with (at_builtin; refine wpList_append_own _ rfl _ _ 39 rfl w.heap.size 62 i0 (.int .u32 0) 1 4 hu hi hz0 hz1 hz2 rfl (by decide) _ _ _ rfl (World.ownsRow_made w #[] 0 (Nat.le_refl _) (Nat.zero_le _) rfl) ⟨bA, oA, none⟩ n c (u32s A) rfl ?qc1 ?qc2 ?qc3 ?qc4 ?qc5 ?qc6 ?_)
  case qc1 => simp [u32s, GA1.out]
  case qc2 =>
    intro j u hj
    have hjn : j < A.length := by
      have := (List.getElem?_eq_some_iff.1 hj).1
      simpa [u32s] using this
    rw [Addr.add_lit]
    refine Lib.cell?_alloc_some _ ?_
    rw [HCA.out j hjn]
    simpa [u32s, hjn] using hj
  case qc3 => intro u hu; obtain ⟨x, _, rfl⟩ := List.mem_map.1 hu; rfl
  case qc4 => unfold maxLen; omega
  case qc5 => omega
  case qc6 => simp
  intro v' w1 hown hgrow hnil
  have hk1 : Keeps [] w w1 := Keeps.below (((Below.refl _ w).alloc (Nat.le_refl _) _).grown hgrow (by simp) (by intro k hk; simp [Value.ownBlock] at hk; omega)) rfl
  have hown' : w1.ownsRow w.heap.size 62 1 v' n (u32s A) := by simpa using hown
  clear hown hgrow hnil
  obtain ⟨g, cap, hv', hg⟩ : ∃ g cap, v' = .slice (some ⟨g, 0, none⟩) n cap ∧ w.heap.size ≤ g := by
    rcases hown'.2 with ⟨_, h⟩ | ⟨g, cap, cur, h, h1, _⟩
    · omega
    · exact ⟨g, cap, h, h1⟩
  subst hv'
  have HO1 := Lib.hid hown'; have HK1 := Lib.hid hk1
  clear hown' hk1
  go_wp2
  go_loopw [6, 7] (fun mv ii wr => ∃ (bo i : Nat) (O : List Nat), mv = .int .u64 (bo : Int) ∧ ii = .int .i64 (i : Int) ∧ i ≤ n ∧ bo ≤ 1 ∧ Hid (O.length = n) ∧ Lt32 O ∧ Hid (wr.ownsRow w.heap.size 62 1 (.slice (some ⟨g, 0, none⟩) n cap) n (u32s O)) ∧ Hid (O.drop i = A.drop i) ∧ Hid (val32 (O.take i) + val32 (B.take i) = val32 (A.take i) + W32 ^ i * bo) ∧ Hid (Keeps [] w wr)) (fun _ ii _ => n - (intOf ii).toNat)
  case atStart => exact ⟨0, 0, A, by go_num, by go_num, by omega, by omega, GA1, gA3, HO1, Lib.hid rfl, Lib.hid (by simp [val32]), HK1⟩
  case round =>
    obtain ⟨bo, i, O, rfl, rfl, hin, hbo, hOl, hOlt, hO, hD, hV, hK⟩ := hrel
    by_cases hlt : i < n
    · have i1 : (i : Int) < (n : Int) := by omega
      have hiO : i < O.length := by have := hOl.out; omega
      have hiA : i < A.length := by have := GA1.out; omega
      obtain ⟨x, hx⟩ : ∃ x, x = O[i] := ⟨_, rfl⟩
      have hxl := hOlt O[i] (List.getElem_mem _)
      have co := hO.out.cellAt i (by omega)
      have fo := hO.out.frozenAt i
      rw [show (u32s O)[i]? = some (.int .u32 (O[i] : Int)) by simp [u32s, hiO]] at co
      rw [← hx] at co hxl
      rw [W32_eq] at hxl
      have hxA : A[i]? = some x := by
        have h := congrArg (fun l => l[0]?) hD.out
        simp only [List.getElem?_drop, Nat.add_zero] at h
        rw [← h, hx, List.getElem?_eq_getElem hiO]
      have HXA := Lib.hid hxA
      clear hx hxA
      -- the word that is taken away
      have hy : ∃ y, y ≤ 4294967296 ∧ ((i < B.length ∧ ∃ u, B[i]? = some u ∧ y = bo + u) ∨ (B.length ≤ i ∧ y = bo)) := by
        rcases Nat.lt_or_ge i B.length with h | h
        · have hu := gB3 B[i] (List.getElem_mem _)
          rw [W32_eq] at hu
          exact ⟨bo + B[i], by omega, .inl ⟨h, B[i], List.getElem?_eq_getElem h, rfl⟩⟩
        · exact ⟨bo, by omega, .inr ⟨h, rfl⟩⟩
      obtain ⟨y, hy1, hy2⟩ := hy
      have key : ∀ z bo' : Nat, z + y = x + bo' * 4294967296 → z < 4294967296 → bo' ≤ 1 → Lt32 (O.set i z) ∧ (wr.setCell ⟨g, i, none⟩ (.int .u32 (z : Int))).ownsRow w.heap.size 62 1 (.slice (some ⟨g, 0, none⟩) n cap) n (u32s (O.set i z)) ∧ (O.set i z).drop (i + 1) = A.drop (i + 1) ∧
          val32 ((O.set i z).take (i + 1)) + val32 (B.take (i + 1)) = val32 (A.take (i + 1)) + W32 ^ (i + 1) * bo' ∧ Keeps [] w (wr.setCell ⟨g, i, none⟩ (.int .u32 (z : Int))) := by
        intro z bo' hz hz2 hb
        have hst := (hO.out.stored i (.int .u32 (z : Int))).1
        rw [u32s_set] at hst
        refine ⟨Lt32.set hOlt (by rw [W32_eq]; exact hz2) i, hst, ?_, take_step hiO HXA.out (by rw [W32_eq]; exact hz) hy2 hV.out, hK.out.setCell (p := ⟨g, i, none⟩) (fun h => absurd h (by show ¬ g < _; omega)) _⟩
        have := drop_set_eq (L := O) (M := A) (i := i) (k := 0) (z := z) (by simpa using hD.out)
        simpa using this
      have KEY := Lib.hid key
      clear key
      have HVv := hV
      clear hV hD
      rcases hy2 with ⟨hB, u, hu, rfl⟩ | ⟨hB, hyb⟩
      · obtain ⟨bB, oB, rfl, hbB, hcB⟩ := GB4.out (by rintro rfl; simp at hB)
        have cB := Keeps.cell1 (hcB i hB) hK.out hbB (by simp)
        have hul := gB3 B[i] (List.getElem_mem _)
        rw [W32_eq] at hul
        have hu' : B[i] = u := by rw [List.getElem?_eq_getElem hB] at hu; simpa using hu
        rw [hu'] at cB hul
        have i2 : (i : Int) < (n2 : Int) := by have := GB1.out; omega
        clear hu hu' hcB
        by_cases hlt2 : x < bo + u
        · obtain ⟨h1, h2, h3, h4, h5⟩ := KEY.out (x + 4294967296 - (bo + u)) 1 (by omega) (by omega) (by omega)
          have H1 := Lib.hid h1; have H2 := Lib.hid h2; have H3 := Lib.hid h3; have H4 := Lib.hid h4; have H5 := Lib.hid h5
          clear h1 h2 h3 h4 h5
          have i3 : (x : Int) < ((bo : Int) + (u : Int)) := by omega
          go_wp2
          rw [show IntKind.u64.wrap ((x : Int) - ((bo : Int) + (u : Int))) % 4294967296 = ((x + 4294967296 - (bo + u) : Nat) : Int) by rw [IntKind.wrap_u64]; omega]
          exact ⟨⟨1, i + 1, O.set i (x + 4294967296 - (bo + u)), rfl, by go_num, by omega, by omega, Lib.hid (by rw [List.length_set]; exact hOl.out), H1.out, H2, H3, H4, H5⟩, by simp [intOf]; omega⟩
        · obtain ⟨h1, h2, h3, h4, h5⟩ := KEY.out (x - (bo + u)) 0 (by omega) (by omega) (by omega)
          have H1 := Lib.hid h1; have H2 := Lib.hid h2; have H3 := Lib.hid h3; have H4 := Lib.hid h4; have H5 := Lib.hid h5
          clear h1 h2 h3 h4 h5
          have i3 : ¬ (x : Int) < ((bo : Int) + (u : Int)) := by omega
          go_wp2
          rw [show ((x : Int) - ((bo : Int) + (u : Int))) = ((x - (bo + u) : Nat) : Int) by omega]
          exact ⟨⟨0, i + 1, O.set i (x - (bo + u)), rfl, by go_num, by omega, by omega, Lib.hid (by rw [List.length_set]; exact hOl.out), H1.out, H2, H3, H4, H5⟩, by simp [intOf]; omega⟩
      · have i2 : ¬ (i : Int) < (n2 : Int) := by have := GB1.out; omega
        rw [hyb] at KEY hy1
        clear hyb
        by_cases hlt2 : x < bo
        · obtain ⟨h1, h2, h3, h4, h5⟩ := KEY.out (x + 4294967296 - (bo)) 1 (by omega) (by omega) (by omega)
          have H1 := Lib.hid h1; have H2 := Lib.hid h2; have H3 := Lib.hid h3; have H4 := Lib.hid h4; have H5 := Lib.hid h5
          clear h1 h2 h3 h4 h5
          have i3 : (x : Int) < (bo : Int) := by omega
          go_wp2
          rw [show IntKind.u64.wrap ((x : Int) - (bo : Int)) % 4294967296 = ((x + 4294967296 - (bo) : Nat) : Int) by rw [IntKind.wrap_u64]; omega]
          exact ⟨⟨1, i + 1, O.set i (x + 4294967296 - (bo)), rfl, by go_num, by omega, by omega, Lib.hid (by rw [List.length_set]; exact hOl.out), H1.out, H2, H3, H4, H5⟩, by simp [intOf]; omega⟩
        · obtain ⟨h1, h2, h3, h4, h5⟩ := KEY.out (x - (bo)) 0 (by omega) (by omega) (by omega)
          have H1 := Lib.hid h1; have H2 := Lib.hid h2; have H3 := Lib.hid h3; have H4 := Lib.hid h4; have H5 := Lib.hid h5
          clear h1 h2 h3 h4 h5
          have i3 : ¬ (x : Int) < (bo : Int) := by omega
          go_wp2
          rw [show ((x : Int) - (bo : Int)) = ((x - (bo) : Nat) : Int) by omega]
          exact ⟨⟨0, i + 1, O.set i (x - (bo)), rfl, by go_num, by omega, by omega, Lib.hid (by rw [List.length_set]; exact hOl.out), H1.out, H2, H3, H4, H5⟩, by simp [intOf]; omega⟩
    · have hin' : i = n := by omega
      have i1 : ¬ (i : Int) < (n : Int) := by omega
      obtain ⟨a', c', he, hN⟩ := N32.of_own hO.out hOlt
      simp only [Value.slice.injEq] at he
      obtain ⟨he1, _, he2⟩ := he
      subst he1 he2
      have HN := Lib.hid hN; have HI := Lib.hid hin'
      clear hN hin'
      go_wp2_with fail
      refine (lBare_any _ n _ O _ HN.out hn).mono ?_
      rintro e w2 ⟨⟨n', c', M, rfl, hM, hMv, hMb, hMn⟩, rfl⟩
      have HM := Lib.hid hM; have HMV := Lib.hid hMv; have HMB := Lib.hid hMb
      clear hM hMv hMb
      go_wp2
      go_ret
      refine ⟨⟨_, n', _, M, rfl, HM.out, HMB.out, hMn, fun hb hle => ?_⟩, hK.out⟩
      rw [HMV.out]
      have h := hV.out
      have hBl : B.length ≤ n := by
        rcases Nat.lt_or_ge n B.length with h1 | h1
        · exfalso
          have h2 := val32_bare_lt hb (B.length - 1) (by omega)
          have h3 := val32_lt gA3
          have h4 : W32 ^ A.length ≤ W32 ^ (B.length - 1) := Nat.pow_le_pow_right (by rw [W32_eq]; omega) (by have := GA1.out; omega)
          omega
        · exact h1
      rw [HI.out, List.take_of_length_le (by have := hOl.out; omega), List.take_of_length_le (by omega), List.take_of_length_le (by have := GA1.out; omega)] at h
      have hOlt' := val32_lt hOlt
      rw [hOl.out] at hOlt'
      have b01 : bo = 0 ∨ bo = 1 := by omega
      rcases b01 with rfl | rfl
      · omega
      · omega

end Go.Proofs.YtnfjmngchapdnaaGreatDoor

/- Numbers of 32-bit words: lShifted. -/
namespace Go.Proofs.YtnfjmngchapdnaaGreatDoor
open Go.RowKit

/-- A row of words of one's own that was returned. -/
def RetOwn (e : Ending) (w' : World) (B : Nat) (p : List Nat → Prop) : Prop :=
  ∃ v M, e = .returned v ∧ w'.ownsRow B 62 1 v M.length (u32s M) ∧ Lt32 M ∧ p M
theorem or_comm32 (a b : Int) : Go.bits .or .u32 a b = Go.bits .or .u32 b a := by
  show IntKind.u32.wrap ((BitVec.ofInt 32 a ||| BitVec.ofInt 32 b).toNat : Int) = IntKind.u32.wrap ((BitVec.ofInt 32 b ||| BitVec.ofInt 32 a).toNat : Int)
  rw [BitVec.or_comm]
theorem shl_parts (x m s : Nat) (hx : x < 4294967296) (hs : s < 32) (hm : m < 2 ^ s) :
    ∃ lo hi z : Nat, ((x : Int) * 2 ^ s) % 4294967296 = (lo : Int) ∧ Go.bits .or .u32 (lo : Int) (m : Int) = (z : Int) ∧ z = lo + m ∧ z < W32 ∧ x * 2 ^ s = lo + W32 * hi ∧ hi < 2 ^ s ∧ (0 < s → hi = x / 2 ^ (32 - s)) ∧ (s = 0 → hi = 0) := by
  have hp : 2 ^ s * 2 ^ (32 - s) = 4294967296 := by rw [← Nat.pow_add, show s + (32 - s) = 32 by omega]
  have h0 : 0 < 2 ^ s := Nat.pow_pos (by omega)
  have h1 : 0 < 2 ^ (32 - s) := Nat.pow_pos (by omega)
  have hb : x % 2 ^ (32 - s) < 2 ^ (32 - s) := Nat.mod_lt _ h1
  have e1 : x * 2 ^ s = 2 ^ s * (x % 2 ^ (32 - s)) + 4294967296 * (x / 2 ^ (32 - s)) := by
    rw [← hp, Nat.mul_assoc, ← Nat.mul_add, Nat.mul_comm x]
    congr 1
    exact (Nat.mod_add_div x (2 ^ (32 - s))).symm
  have h2 : 2 ^ s * (x % 2 ^ (32 - s) + 1) ≤ 2 ^ s * 2 ^ (32 - s) := Nat.mul_le_mul_left _ hb
  rw [Nat.mul_add, Nat.mul_one, hp] at h2
  obtain ⟨lo, hlo⟩ : ∃ lo, lo = 2 ^ s * (x % 2 ^ (32 - s)) := ⟨_, rfl⟩
  have hor := or_u32 m (x % 2 ^ (32 - s)) s hm (by omega)
  rw [← hlo] at hor e1 h2
  have e2 : ((x : Int) * 2 ^ s) = ((x * 2 ^ s : Nat) : Int) := by rw [Int.natCast_mul, Int.natCast_pow]; rfl
  have hhi : x / 2 ^ (32 - s) < 2 ^ s := by
    rw [Nat.div_lt_iff_lt_mul h1, hp]; exact hx
  refine ⟨lo, x / 2 ^ (32 - s), lo + m, ?_, ?_, rfl, ?_, ?_, hhi, fun _ => rfl, fun h => ?_⟩
  · rw [e2, e1]; omega
  · rw [or_comm32]; exact hor
  · rw [W32_eq]; omega
  · rw [W32_eq]; exact e1
  · subst h; simp; omega

theorem shift_step {V V' i m x s z lo hi o T T' : Nat} (hV : V + W32 ^ i * m = T * 2 ^ s) (hput : V' = V + W32 ^ i * z) (hz : z = lo + m) (hx : x * 2 ^ s = lo + W32 * hi) (hT : T' = T + W32 ^ i * x) :
    V' + W32 ^ (i + 1) * hi = T' * 2 ^ s := by
  have h1 : W32 ^ (i + 1) * hi = W32 ^ i * (W32 * hi) := by rw [Nat.pow_succ, Nat.mul_assoc]
  have h2 : W32 ^ i * z = W32 ^ i * lo + W32 ^ i * m := by rw [hz, Nat.mul_add]
  have h3 : T' * 2 ^ s = T * 2 ^ s + (W32 ^ i * lo + W32 ^ i * (W32 * hi)) := by
    rw [hT, Nat.add_mul, Nat.mul_assoc, hx, Nat.mul_add]
  omega

set_option maxRecDepth 100000 in
set_option maxHeartbeats 2000000 in
theorem lShifted_any (a : Option Addr) (n c s : Nat) (A : List Nat) (w : World) (hA : N32 w a n c A) (hn : n ≤ 1000) (hs : s < 32) :
    Calls Tryz.prog 47 #[.slice a n c, .int .i64 (s : Int)] w fun e w' =>
      RetOwn e w' w.heap.size (fun M => val32 M = val32 A * 2 ^ s ∧ (M.length = n ∨ (M.length = n + 1 ∧ W32 ^ n ≤ val32 M))) ∧ Keeps [] w w' := by
  obtain ⟨i0, hi, hz0, hz1, hz2⟩ := info_parts info_u32
  have hu := und_lnum
  obtain ⟨wm, hmk, hown, hgr⟩ := run_make_full (P := Tryz.prog) w w.heap.size 39 62 i0 (.int .u32 0) 1 und_lnum hi hz0 hz1 .i64 .i64 n (by rw [hz2]; omega) (by unfold maxLen; omega) (Nat.le_refl _)
  have hown' : wm.ownsRow w.heap.size 62 1 (.slice (some ⟨w.heap.size, 0, none⟩) n n) n (u32s (List.replicate n 0)) := by
    have e : (madeCells (Value.int .u32 0).cells (n * 1)).toList = u32s (List.replicate n 0) := by
      rw [Nat.mul_one]
      show (madeCells #[Value.int .u32 0] n).toList = _
      rw [toList_madeCells_one]; simp [u32s]
    rw [← e]; exact hown
  have hk0 : Keeps [] w wm := (Keeps.refl [] w).grown hgr (by simp)
  have HO0 := Lib.hid hown'; have HK0 := Lib.hid hk0
  clear hown hgr hown' hk0
  obtain ⟨gA1, gA2, gA3, gA4⟩ := hA
  have GA1 := Lib.hid gA1; have GA4 := Lib.hid gA4
  clear gA1 gA4
  go_enter Tryz.func47, Tryz.ntmps47
  go_wp2
  clear hmk
  go_loopw [6, 7] (fun mv ii wr => ∃ (m i : Nat) (O : List Nat), mv = .int .u32 (m : Int) ∧ ii = .int .i64 (i : Int) ∧ i ≤ n ∧ m < 2 ^ s ∧ Hid (O.length = n) ∧ Lt32 O ∧ Hid (wr.ownsRow w.heap.size 62 1 (.slice (some ⟨w.heap.size, 0, none⟩) n n) n (u32s O)) ∧ Hid (val32 (O.take i) + W32 ^ i * m = val32 (A.take i) * 2 ^ s) ∧ Hid (Keeps [] w wr)) (fun _ ii _ => n - (intOf ii).toNat)
  case atStart =>
    exact ⟨0, 0, List.replicate n 0, by go_num, by go_num, by omega, Nat.pow_pos (by omega), Lib.hid (by simp), fun x hx => by have := (List.mem_replicate.1 hx).2; subst this; decide, HO0, Lib.hid (by simp [val32]), HK0⟩
  case round =>
    obtain ⟨m, i, O, rfl, rfl, hin, hm, hOl, hOlt, hO, hV, hK⟩ := hrel
    by_cases hlt : i < n
    · have i1 : (i : Int) < (n : Int) := by omega
      obtain ⟨bA, oA, rfl, hbA, hcA⟩ := GA4.out (by intro e; have := GA1.out; subst e; simp at this; omega)
      have hiA : i < A.length := by have := GA1.out; omega
      have hiO : i < O.length := by have := hOl.out; omega
      obtain ⟨x, hx⟩ : ∃ x, x = A[i] := ⟨_, rfl⟩
      have hxl := gA3 A[i] (List.getElem_mem _)
      have cA := Keeps.cell1 (hcA i hiA) hK.out hbA (by simp)
      rw [← hx] at cA hxl
      rw [W32_eq] at hxl
      have co := hO.out.cellAt i (by omega)
      have fo := hO.out.frozenAt i
      rw [show (u32s O)[i]? = some (.int .u32 (O[i] : Int)) by simp [u32s, hiO]] at co
      obtain ⟨lo, hh, z, e1, e2, e3, e4, e5, e6, e7, e8⟩ := shl_parts x m s hxl hs hm
      have HX := Lib.hid hx; have E3 := Lib.hid e3; have E4 := Lib.hid e4; have E5 := Lib.hid e5; have E7 := Lib.hid e7; have E8 := Lib.hid e8
      have M0 := Lib.hid hm
      clear hx hcA e3 e4 e5 e7 e8 hm
      have hst := (hO.out.stored i (.int .u32 (z : Int))).1
      rw [u32s_set] at hst
      have HST := Lib.hid hst
      have hks := hK.out.setCell (p := ⟨w.heap.size, i, none⟩) (fun h => absurd h (Nat.lt_irrefl _)) (.int .u32 (z : Int))
      have HKS := Lib.hid hks
      have hval : val32 ((O.set i z).take (i + 1)) + W32 ^ (i + 1) * hh = val32 (A.take (i + 1)) * 2 ^ s := by
        refine shift_step (o := 0) hV.out ?_ E3.out E5.out ?_
        · rw [val32_take_succ _ _ (by simp; omega), List.getElem_set_self, List.take_set_of_le (Nat.le_refl _)]
        · rw [HX.out]; exact val32_take_succ A i hiA
      have HVV := Lib.hid hval
      have hlt2 : Lt32 (O.set i z) := Lt32.set hOlt E4.out i
      clear hst hks hval
      rcases Nat.eq_zero_or_pos s with h0 | h0
      · have i2 : ¬ (0 : Int) < (s : Int) := by omega
        have hh0 : hh = 0 := E8.out h0
        have HH0 := Lib.hid hh0
        have H00 := Lib.hid h0
        clear hh0 h0
        go_wp2
        refine ⟨⟨0, i + 1, O.set i z, by go_num, by go_num, by omega, by omega, Lib.hid (by rw [List.length_set]; exact hOl.out), hlt2, HST, Lib.hid ?_, HKS⟩, by simp [intOf]; omega⟩
        have h := HVV.out
        rw [HH0.out] at h; exact h
      · have i2 : (0 : Int) < (s : Int) := by omega
        have i3 : (0 : Int) ≤ 32 - (s : Int) := by omega
        go_wp2
        have hh0 := E7.out h0
        have ei : (x : Int) / 2 ^ (32 - s) = (hh : Int) := by rw [hh0]; simp
        rw [ei]
        exact ⟨⟨hh, i + 1, O.set i z, rfl, by go_num, by omega, e6, Lib.hid (by rw [List.length_set]; exact hOl.out), hlt2, HST, HVV, HKS⟩, by simp [intOf]; omega⟩
    · have hin' : i = n := by omega
      have i1 : ¬ (i : Int) < (n : Int) := by omega
      have HI := Lib.hid hin'
      clear hin'
      have hv : val32 O + W32 ^ n * m = val32 A * 2 ^ s := by
        have h := hV.out
        rw [HI.out, List.take_of_length_le (by have := hOl.out; omega), List.take_of_length_le (by have := GA1.out; omega)] at h
        exact h
      have HV := Lib.hid hv
      clear hv
      by_cases hm0 : m = 0
      · subst hm0
        have hfin : val32 O = val32 A * 2 ^ s := by have := HV.out; simpa using this
        have HF := Lib.hid hfin
        clear hfin
        go_wp2
        go_ret
        refine ⟨⟨_, O, rfl, ?_, hOlt, HF.out, .inl hOl.out⟩, hK.out⟩
        rw [hOl.out]; exact hO.out
      · have i2 : (0 : Int) < (m : Int) := by omega
        have hmW : m < W32 := Nat.lt_trans hm (by rw [W32_eq]; exact Nat.lt_of_lt_of_le (Nat.pow_lt_pow_right (by omega) hs) (by omega))
        have hO2 : (wr.alloc (.cells #[.int .u32 (m : Int)] 62)).ownsRow w.heap.size 62 1 (.slice (some ⟨w.heap.size, 0, none⟩) n n) n (u32s O) := hO.out.alloc _
        have HO2 := Lib.hid hO2
        clear hO2
        go_wp2_with (at_builtin; refine wpList_append_own _ rfl _ _ 39 rfl w.heap.size 62 i0 (.int .u32 0) 1 4 hu hi hz0 hz1 hz2 rfl (by decide) _ _ _ rfl HO2.out ⟨wr.heap.size, 0, none⟩ 1 1 [.int .u32 (m : Int)] rfl ?qc1 ?qc2 ?qc3 ?qc4 ?qc5 ?qc6 ?_)
        case qc3 => rfl
        case qc4 => unfold maxLen; omega
        case qc5 => omega
        case qc6 => have := hK.out.size; simp; omega
        intro v' w1 hown hgrow hnil
        go_wp2
        go_ret
        have hOn := hOl.out
        refine ⟨⟨v', O ++ [m], rfl, ?_, ?_, ?_, .inr ⟨by simp [hOn], ?_⟩⟩, (hK.out.alloc _).grown hgrow (fun k hk hlt => ?_)⟩
        · have e : (O ++ [m]).length = n + 1 := by simp [hOn]
          rw [e]
          simpa [u32s] using hown
        · intro y hy
          rcases List.mem_append.1 hy with h | h
          · exact hOlt y h
          · simp at h; subst h; exact hmW
        · rw [val32_snoc, hOn]; exact HV.out
        · rw [val32_snoc, hOn]
          have : W32 ^ n * 1 ≤ W32 ^ n * m := Nat.mul_le_mul_left _ (by omega)
          omega
        · simp [Value.ownBlock] at hk; omega

end Go.Proofs.YtnfjmngchapdnaaGreatDoor

/- Knuth, 4.3.1, D: the guess of one digit; plain arithmetic. -/
namespace Go.Proofs.YtnfjmngchapdnaaGreatDoor

/-- A guess that is too great by the two next words is above the quotient. -/
theorem kn_over {W K top u2 ul y1 y2 yl qh rh : Nat} (htop : top = qh * y1 + rh) (hul : ul < K) (hc : W * rh + u2 < qh * y2) :
    (top * W + u2) * K + ul < qh * ((y1 * W + y2) * K + yl) := by
  have h1 : qh * (y1 * W + y2) = qh * y1 * W + qh * y2 := by rw [Nat.mul_add, Nat.mul_assoc]
  have h2 : top * W = qh * y1 * W + W * rh := by rw [htop, Nat.add_mul, Nat.mul_comm rh W]
  have h3 : top * W + u2 + 1 ≤ qh * (y1 * W + y2) := by omega
  have h4 : (top * W + u2 + 1) * K ≤ qh * (y1 * W + y2) * K := Nat.mul_le_mul_right _ h3
  have h5 : qh * ((y1 * W + y2) * K + yl) = qh * (y1 * W + y2) * K + qh * yl := by rw [Nat.mul_add, Nat.mul_assoc]
  rw [Nat.add_mul, Nat.one_mul] at h4
  omega
/-- A guess that is not too great by the two next words is at most one above the quotient. -/
theorem kn_close {W K top u2 ul y1 y2 yl qh rh : Nat} (htop : top = qh * y1 + rh) (hyl : yl < K) (hc : qh * y2 ≤ W * rh + u2) (hq : qh < W) (hy : 0 < y1) :
    qh * ((y1 * W + y2) * K + yl) < ((top * W + u2) * K + ul) + ((y1 * W + y2) * K + yl) := by
  have h1 : qh * (y1 * W + y2) = qh * y1 * W + qh * y2 := by rw [Nat.mul_add, Nat.mul_assoc]
  have h2 : top * W = qh * y1 * W + W * rh := by rw [htop, Nat.add_mul, Nat.mul_comm rh W]
  have h3 : qh * (y1 * W + y2) ≤ top * W + u2 := by omega
  have h4 : qh * (y1 * W + y2) * K ≤ (top * W + u2) * K := Nat.mul_le_mul_right _ h3
  have h5 : qh * ((y1 * W + y2) * K + yl) = qh * (y1 * W + y2) * K + qh * yl := by rw [Nat.mul_add, Nat.mul_assoc]
  have h6 : qh * yl ≤ qh * K := Nat.mul_le_mul_left _ (by omega)
  have h7 : (qh + 1) * K ≤ W * K := Nat.mul_le_mul_right _ hq
  have h8 : 1 * W * K ≤ y1 * W * K := Nat.mul_le_mul_right _ (Nat.mul_le_mul_right _ hy)
  have h9 : (y1 * W + y2) * K = y1 * W * K + y2 * K := Nat.add_mul _ _ _
  rw [Nat.add_mul, Nat.one_mul] at h7
  rw [Nat.one_mul] at h8
  omega
/-- The first guess is not below the quotient. -/
theorem kn_init {W K top u2 ul y1 y2 yl : Nat} (hul : ul < K) (hu2 : u2 < W) (hy : 0 < y1) :
    (top * W + u2) * K + ul < (top / y1 + 1) * ((y1 * W + y2) * K + yl) := by
  have h1 : top + 1 ≤ (top / y1 + 1) * y1 := by
    have := Nat.lt_div_mul_add hy (a := top)
    rw [Nat.add_mul, Nat.one_mul]; omega
  have h2 : (top * W + u2 + 1) * K ≤ ((top + 1) * W) * K := Nat.mul_le_mul_right _ (by rw [Nat.add_mul, Nat.one_mul]; omega)
  have h3 : (top + 1) * W * K ≤ (top / y1 + 1) * y1 * W * K := Nat.mul_le_mul_right _ (Nat.mul_le_mul_right _ h1)
  have h4 : (top / y1 + 1) * ((y1 * W + y2) * K + yl) = (top / y1 + 1) * y1 * W * K + (top / y1 + 1) * (y2 * K + yl) := by
    rw [Nat.add_mul (y1 * W), Nat.add_assoc, Nat.mul_add]
    congr 1
    rw [Nat.mul_assoc, Nat.mul_assoc, Nat.mul_assoc]
  rw [Nat.add_mul, Nat.one_mul] at h2
  omega
/-- What is left behind the guess, or behind the guess less one. -/
theorem kn_rest {U Y q : Nat} (h1 : U < (q + 1) * Y) (h2 : q * Y < U + Y) : (q * Y ≤ U → U - q * Y = U % Y) ∧ (U < q * Y → U + Y - q * Y = U % Y) := by
  constructor
  · intro h
    have e : U = (U - q * Y) + Y * q := by rw [Nat.mul_comm Y]; omega
    have h3 : U - q * Y < Y := by rw [Nat.add_mul, Nat.one_mul] at h1; omega
    conv => rhs; rw [e, Nat.add_mul_mod_self_left]
    exact (Nat.mod_eq_of_lt h3).symm
  · intro h
    have hq : 0 < q := by
      rcases Nat.eq_zero_or_pos q with h0 | h0
      · subst h0; simp at h
      · exact h0
    obtain ⟨k, rfl⟩ : ∃ k, q = k + 1 := ⟨q - 1, by omega⟩
    rw [Nat.add_mul, Nat.one_mul] at h h2 ⊢
    have e : U = (U - k * Y) + Y * k := by rw [Nat.mul_comm Y]; omega
    have h3 : U - k * Y < Y := by omega
    have e2 : U + Y - (k * Y + Y) = U - k * Y := by omega
    rw [e2]
    conv => rhs; rw [e, Nat.add_mul_mod_self_left]
    exact (Nat.mod_eq_of_lt h3).symm

/-- One step of taking the guess's multiple away: V the number before, V' behind; b, b' what is borrowed. -/
theorem ms_step {W V V' V0 j i q T T' y cy c' b b' x z lo : Nat} (hV : V + W ^ j * (q * T) = V0 + W ^ (j + i) * (cy + b)) (hput : V' + W ^ (j + i) * x = V + W ^ (j + i) * z)
    (hp : q * y + cy = lo + W * c') (hz : z + lo + b = x + W * b') (hT : T' = T + W ^ i * y) : V' + W ^ j * (q * T') = V0 + W ^ (j + (i + 1)) * (c' + b') := by
  have h1 : W ^ j * (q * T') = W ^ j * (q * T) + W ^ (j + i) * (q * y) := by
    rw [hT, Nat.mul_add q, Nat.mul_add (W ^ j), Nat.pow_add]
    congr 1
    rw [Nat.mul_assoc]
    congr 1
    rw [← Nat.mul_assoc, ← Nat.mul_assoc, Nat.mul_comm q]
  have h2 : W ^ (j + (i + 1)) * (c' + b') = W ^ (j + i) * (W * c') + W ^ (j + i) * (W * b') := by
    rw [← Nat.add_assoc, Nat.pow_succ, Nat.mul_assoc, Nat.mul_add W, Nat.mul_add]
  have h3 : W ^ (j + i) * (z + lo + b) = W ^ (j + i) * (x + W * b') := by rw [hz]
  have h4 : W ^ (j + i) * (q * y + cy) = W ^ (j + i) * (lo + W * c') := by rw [hp]
  simp only [Nat.mul_add] at h3 h4 hV
  rw [h1, h2]
  omega
/-- The last word. -/
theorem ms_last {W V V' V0 j n q Y cy b g x z : Nat} (hV : V + W ^ j * (q * Y) = V0 + W ^ (j + n) * (cy + b)) (hput : V' + W ^ (j + n) * x = V + W ^ (j + n) * z) (hz : z + cy + b = x + W * g) :
    V' + W ^ j * (q * Y) = V0 + W ^ (j + n + 1) * g := by
  have h2 : W ^ (j + n + 1) * g = W ^ (j + n) * (W * g) := by rw [Nat.pow_succ, Nat.mul_assoc]
  have h3 : W ^ (j + n) * (z + cy + b) = W ^ (j + n) * (x + W * g) := by rw [hz]
  simp only [Nat.mul_add] at h3 hV
  rw [h2]
  omega
/-- One step of adding back. -/
theorem ab_step {W V V' V0 j i T T' y c c' x z : Nat} (hV : V + W ^ (j + i) * c = V0 + W ^ j * T) (hput : V' + W ^ (j + i) * x = V + W ^ (j + i) * z) (hz : c + (x + y) = z + W * c') (hT : T' = T + W ^ i * y) :
    V' + W ^ (j + (i + 1)) * c' = V0 + W ^ j * T' := by
  have h1 : W ^ j * T' = W ^ j * T + W ^ (j + i) * y := by rw [hT, Nat.mul_add, Nat.pow_add, Nat.mul_assoc]
  have h2 : W ^ (j + (i + 1)) * c' = W ^ (j + i) * (W * c') := by rw [← Nat.add_assoc, Nat.pow_succ, Nat.mul_assoc]
  have h3 : W ^ (j + i) * (c + (x + y)) = W ^ (j + i) * (z + W * c') := by rw [hz]
  simp only [Nat.mul_add] at h3
  rw [h1, h2]
  omega
/-- A number that is taken modulo a shifted multiple keeps its rest. -/
theorem kn_mod {V Y j W q low U r : Nat} (hV : V = low + W ^ j * U) (hr : q * Y ≤ U ∧ r = U - q * Y) : (low + W ^ j * r) % Y = V % Y := by
  have e : V = (low + W ^ j * r) + Y * (W ^ j * q) := by
    rw [hV, hr.2]
    have h1 : W ^ j * U = W ^ j * (U - q * Y) + W ^ j * (q * Y) := by rw [← Nat.mul_add]; congr 1; omega
    rw [h1, Nat.add_assoc]
    congr 2
    rw [← Nat.mul_assoc, Nat.mul_comm Y]
  rw [e, Nat.add_mul_mod_self_left]

end Go.Proofs.YtnfjmngchapdnaaGreatDoor
