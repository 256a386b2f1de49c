import Derived.Test.YtnfjmngchapdnaaGreatDoorMLTake
import Derived.Test.YtnfjmngchapdnaaGreatDoorMPubOf
import Derived.Test.YtnfjmngchapdnaaGreatDoorMAdd
import Derived.Test.YtnfjmngchapdnaaGreatDoorMCmp2
import Derived.Deep.LoopGhost
/- spec: LLess, LMersenne. -/
namespace Go.Proofs.YtnfjmngchapdnaaGreatDoor
open Go.RowKit

theorem less_step {O A : List Nat} {i x z t t' n0 : Nat} (hO : i < O.length) (hx : A[i]? = some x) (hz : z + t = x + t' * W32)
    (h : val32 (O.take i) + n0 = val32 (A.take i) + W32 ^ i * t) : val32 ((O.set i z).take (i + 1)) + n0 = val32 (A.take (i + 1)) + W32 ^ (i + 1) * t' := by
  have h1 : val32 ((O.set i z).take (i + 1)) = val32 (O.take i) + W32 ^ i * z := by
    rw [val32_take_succ _ _ (by simp; omega), List.getElem_set_self, List.take_set_of_le (Nat.le_refl _)]
  have hA : i < A.length := (List.getElem?_eq_some_iff.1 hx).1
  have h2 : val32 (A.take (i + 1)) = val32 (A.take i) + W32 ^ i * x := by
    rw [val32_take_succ _ _ hA]
    rw [List.getElem?_eq_getElem hA] at hx
    simp only [Option.some.injEq] at hx
    rw [hx]
  have h4 : W32 ^ i * z + W32 ^ i * t = W32 ^ i * x + W32 ^ (i + 1) * t' := by
    rw [← Nat.mul_add, hz, Nat.mul_add, Nat.pow_succ, Nat.mul_assoc, Nat.mul_comm t']
  rw [h1, h2]
  omega

set_option maxRecDepth 100000 in
set_option maxHeartbeats 4000000 in
/-- A number less a small one, which is not greater. -/
theorem lLess_any (a : Option Addr) (n c q : Nat) (A : List Nat) (w : World) (hA : N32 w a n c A) (hn : n ≤ 1000) (hne : A ≠ []) (hq : q < 4294967296) (hle : q ≤ val32 A) :
    Calls Tryz.prog 46 #[.slice a n c, .int .u32 (q : Int)] w fun e w' => RetN e w' n (val32 A - q) ∧ Keeps [] w w' := by
  obtain ⟨i0, hi, hz0, hz1, hz2⟩ := info_parts info_u32
  have hu := und_lnum
  obtain ⟨gA1, gA2, gA3, gA4⟩ := hA
  obtain ⟨bA, oA, rfl, hbA, hcA⟩ := gA4 hne
  have GA1 := Lib.hid gA1
  have HCA := Lib.hid hcA
  have hn0 : 0 < n := by have := List.length_pos_iff.2 hne; omega
  have HLE := Lib.hid hle
  clear gA1 gA4 hcA hle
  go_enter Tryz.func46, Tryz.ntmps46
  go_wp2_with (at_builtin; refine wpList_append_own _ rfl _ _ 39 rfl w.heap.size 62 i0 (.int .u32 0) 1 4 hu hi hz0 hz1 hz2 rfl (by decide) _ _ _ rfl (World.ownsRow_made w #[] 0 (Nat.le_refl _) (Nat.zero_le _) rfl) ⟨bA, oA, none⟩ n c (u32s A) rfl ?qc1 ?qc2 ?qc3 ?qc4 ?qc5 ?qc6 ?_)
  case qc1 => simp [u32s, GA1.out]
  case qc2 =>
    intro j u hj
    have hjn : j < A.length := by
      have := (List.getElem?_eq_some_iff.1 hj).1
      simpa [u32s] using this
    rw [Addr.add_lit]
    refine Lib.cell?_alloc_some _ ?_
    rw [HCA.out j hjn]
    simpa [u32s, hjn] using hj
  case qc3 => intro u hu; obtain ⟨x, _, rfl⟩ := List.mem_map.1 hu; rfl
  case qc4 => unfold maxLen; omega
  case qc5 => omega
  case qc6 => simp
  intro v' w1 hown hgrow hnil
  have hk1 : Keeps [] w w1 := Keeps.below (((Below.refl _ w).alloc (Nat.le_refl _) _).grown hgrow (by simp) (by intro k hk; simp [Value.ownBlock] at hk; omega)) rfl
  have hown' : w1.ownsRow w.heap.size 62 1 v' n (u32s A) := by simpa using hown
  clear hown hgrow hnil
  obtain ⟨g, cap, hv', hg⟩ : ∃ g cap, v' = .slice (some ⟨g, 0, none⟩) n cap ∧ w.heap.size ≤ g := by
    rcases hown'.2 with ⟨_, h⟩ | ⟨g, cap, cur, h, h1, _⟩
    · omega
    · exact ⟨g, cap, h, h1⟩
  subst hv'
  have HO1 := Lib.hid hown'; have HK1 := Lib.hid hk1
  clear hown' hk1
  go_wp2
  go_loopw [6, 7] (fun tv iv wr => ∃ (t i : Nat) (O : List Nat), tv = .int .u64 (t : Int) ∧ iv = .int .i64 (i : Int) ∧ i ≤ n ∧ t < 4294967296 ∧ Hid (O.length = n) ∧ Lt32 O ∧ Hid (wr.ownsRow w.heap.size 62 1 (.slice (some ⟨g, 0, none⟩) n cap) n (u32s O)) ∧ Hid (O.drop i = A.drop i) ∧ Hid (val32 (O.take i) + q = val32 (A.take i) + W32 ^ i * t) ∧ Hid (Keeps [] w wr)) (fun _ iv _ => n - (intOf iv).toNat)
  case atStart => exact ⟨q, 0, A, by go_num, by go_num, by omega, hq, GA1, gA3, HO1, Lib.hid rfl, Lib.hid (by simp [val32]), HK1⟩
  case round =>
    obtain ⟨t, i, O, rfl, rfl, hin, htl, hOl, hOlt, hO, hD, hV, hK⟩ := hrel
    by_cases hgo : i < n ∧ 0 < t
    · obtain ⟨hlt, ht0⟩ := hgo
      have i1 : (i : Int) < (n : Int) := by omega
      have i2 : (0 : Int) < (t : Int) := by omega
      have hiO : i < O.length := by have := hOl.out; omega
      obtain ⟨x, hx⟩ : ∃ x, x = O[i] := ⟨_, rfl⟩
      have hxl := hOlt O[i] (List.getElem_mem _)
      have co := hO.out.cellAt i (by omega)
      have fo := hO.out.frozenAt i
      rw [show (u32s O)[i]? = some (.int .u32 (O[i] : Int)) by simp [u32s, hiO]] at co
      rw [← hx] at co hxl
      rw [W32_eq] at hxl
      have hxA : A[i]? = some x := by
        have h := congrArg (fun l => l[0]?) hD.out
        simp only [List.getElem?_drop, Nat.add_zero] at h
        rw [← h, hx, List.getElem?_eq_getElem hiO]
      have HXA := Lib.hid hxA
      clear hx hxA
      have key : ∀ z t' : Nat, z + t = x + t' * 4294967296 → z < 4294967296 → Lt32 (O.set i z) ∧ (wr.setCell ⟨g, i, none⟩ (.int .u32 (z : Int))).ownsRow w.heap.size 62 1 (.slice (some ⟨g, 0, none⟩) n cap) n (u32s (O.set i z)) ∧ (O.set i z).drop (i + 1) = A.drop (i + 1) ∧
          val32 ((O.set i z).take (i + 1)) + q = val32 (A.take (i + 1)) + W32 ^ (i + 1) * t' ∧ Keeps [] w (wr.setCell ⟨g, i, none⟩ (.int .u32 (z : Int))) := by
        intro z t' hz hz2
        have hst := (hO.out.stored i (.int .u32 (z : Int))).1
        rw [u32s_set] at hst
        refine ⟨Lt32.set hOlt (by rw [W32_eq]; exact hz2) i, hst, ?_, less_step hiO HXA.out (by rw [W32_eq]; exact hz) hV.out, hK.out.setCell (p := ⟨g, i, none⟩) (fun h => absurd h (by show ¬ g < _; omega)) _⟩
        have := drop_set_eq (L := O) (M := A) (i := i) (k := 0) (z := z) (by simpa using hD.out)
        simpa using this
      have KEY := Lib.hid key
      clear key hV hD
      by_cases hlt2 : x < t
      · obtain ⟨h1, h2, h3, h4, h5⟩ := KEY.out (x + 4294967296 - t) 1 (by omega) (by omega)
        have H1 := Lib.hid h1; have H2 := Lib.hid h2; have H3 := Lib.hid h3; have H4 := Lib.hid h4; have H5 := Lib.hid h5
        clear h1 h2 h3 h4 h5
        have i3 : decide ((t : Int) ≤ (x : Int)) = false := decide_eq_false (by omega)
        have i4 : IntKind.u64.wrap ((x : Int) - (t : Int)) % 4294967296 = ((x + 4294967296 - t : Nat) : Int) := by rw [IntKind.wrap_u64]; omega
        clear hlt2
        go_wp2
        exact ⟨⟨1, i + 1, O.set i (x + 4294967296 - t), rfl, by go_num, by omega, by omega, Lib.hid (by rw [List.length_set]; exact hOl.out), H1.out, H2, H3, H4, H5⟩, by simp [intOf]; omega⟩
      · obtain ⟨h1, h2, h3, h4, h5⟩ := KEY.out (x - t) 0 (by omega) (by omega)
        have H1 := Lib.hid h1; have H2 := Lib.hid h2; have H3 := Lib.hid h3; have H4 := Lib.hid h4; have H5 := Lib.hid h5
        clear h1 h2 h3 h4 h5
        have i3 : (t : Int) ≤ (x : Int) := by omega
        go_wp2
        rw [show ((x : Int) - (t : Int)) = ((x - t : Nat) : Int) by omega]
        exact ⟨⟨0, i + 1, O.set i (x - t), rfl, by go_num, by omega, by omega, Lib.hid (by rw [List.length_set]; exact hOl.out), H1.out, H2, H3, H4, H5⟩, by simp [intOf]; omega⟩
    · obtain ⟨a', c', he, hN⟩ := N32.of_own hO.out hOlt
      simp only [Value.slice.injEq] at he
      obtain ⟨he1, _, he2⟩ := he
      subst he1 he2
      have hval : val32 O + q = val32 A := by
        have h := hV.out
        have h1 : val32 O = val32 (O.take i) + W32 ^ i * val32 (O.drop i) := by
          conv => lhs; rw [← List.take_append_drop i O]
          rw [val32_append, List.length_take, Nat.min_eq_left (by have := hOl.out; omega)]
        have h2 : val32 A = val32 (A.take i) + W32 ^ i * val32 (A.drop i) := by
          conv => lhs; rw [← List.take_append_drop i A]
          rw [val32_append, List.length_take, Nat.min_eq_left (by have := GA1.out; omega)]
        rw [hD.out] at h1
        rcases Nat.eq_zero_or_pos t with h0 | h0
        · subst h0
          simp only [Nat.mul_zero, Nat.add_zero] at h
          omega
        · have hin' : i = n := by omega
          exfalso
          have h3 := val32_lt hOlt
          have h4 : O.take i = O := List.take_of_length_le (by have := hOl.out; omega)
          have h5 : A.take i = A := List.take_of_length_le (by have := GA1.out; omega)
          rw [h4, h5] at h
          rw [hOl.out, ← hin'] at h3
          have h6 : W32 ^ i * 1 ≤ W32 ^ i * t := Nat.mul_le_mul_left _ h0
          have := HLE.out
          omega
      have HN := Lib.hid hN; have HV := Lib.hid hval
      clear hN hval hV
      by_cases hlt : i < n
      · have i1 : (i : Int) < (n : Int) := by omega
        have ht0 : t = 0 := by omega
        subst ht0
        go_wp2_with fail
        refine (lBare_any _ n _ O _ HN.out hn).mono ?_
        rintro e w2 ⟨⟨n', c', M, rfl, hM, hMv, hMb, hMn⟩, rfl⟩
        have HM := Lib.hid hM; have HMV := Lib.hid hMv; have HMB := Lib.hid hMb
        clear hM hMv hMb
        go_wp2
        go_ret
        exact ⟨⟨_, n', _, rfl, M, HM.out, HMB.out, by rw [HMV.out]; have := HV.out; omega, hMn⟩, hK.out⟩
      · have i1 : ¬ (i : Int) < (n : Int) := by omega
        go_wp2_with fail
        refine (lBare_any _ n _ O _ HN.out hn).mono ?_
        rintro e w2 ⟨⟨n', c', M, rfl, hM, hMv, hMb, hMn⟩, rfl⟩
        have HM := Lib.hid hM; have HMV := Lib.hid hMv; have HMB := Lib.hid hMb
        clear hM hMv hMb
        go_wp2
        go_ret
        exact ⟨⟨_, n', _, rfl, M, HM.out, HMB.out, by rw [HMV.out]; have := HV.out; omega, hMn⟩, hK.out⟩

/-- Mersenne's number. -/
def Mers (b : Nat) : Nat := 2 ^ b - 1
theorem val32_mers (b : Nat) : val32 ((List.replicate (b / 32 + 1) 0).set (b / 32) (2 ^ (b % 32))) = 2 ^ b := by
  have h1 := val32_put (List.replicate (b / 32 + 1) 0) (b / 32) 0 (2 ^ (b % 32)) (by simp)
  rw [val32_zeros, Nat.mul_zero, Nat.add_zero, Nat.zero_add] at h1
  rw [h1, W32_pow, ← Nat.pow_add]
  congr 1
  omega

set_option maxRecDepth 100000 in
set_option maxHeartbeats 4000000 in
theorem lMersenne_any (b : Nat) (w : World) (hb : b ≤ 2000) :
    Calls Tryz.prog 28 #[.int .i64 (b : Int)] w fun e w' => RetN e w' (b / 32 + 1) (Mers b) ∧ Keeps [] w w' := by
  obtain ⟨i0, hi, hz0, hz1, hz2⟩ := info_parts info_u32
  obtain ⟨k, hk⟩ : ∃ k, k = b / 32 := ⟨_, rfl⟩
  obtain ⟨r, hr⟩ : ∃ r, r = b % 32 := ⟨_, rfl⟩
  obtain ⟨wm, hmk, hown, hgr⟩ := run_make_full (P := Tryz.prog) w w.heap.size 39 62 i0 (.int .u32 0) 1 und_lnum hi hz0 hz1 .i64 .i64 (k + 1) (by rw [hz2]; omega) (by unfold maxLen; omega) (Nat.le_refl _)
  have g1 : (b : Int) / 32 = (k : Int) := by omega
  have g2 : (b : Int) % 32 = (r : Int) := by omega
  have g3 : (b : Int).tdiv 32 = (k : Int) := by rw [Int.tdiv_eq_ediv_of_nonneg (by omega)]; exact g1
  have g4 : (b : Int).tmod 32 = (r : Int) := by rw [Int.tmod_eq_emod_of_nonneg (by omega)]; exact g2
  have hmk' : (Instr.makeSlice 39 (.int .i64 ((k : Int) + 1)) (.int .i64 ((k : Int) + 1))).run Tryz.prog w = .ok (.slice (some ⟨w.heap.size, 0, none⟩) (k + 1) (k + 1)) wm := by
    have e : ((k + 1 : Nat) : Int) = (k : Int) + 1 := by omega
    rw [← e]; exact hmk
  have hown' : wm.ownsRow w.heap.size 62 1 (.slice (some ⟨w.heap.size, 0, none⟩) (k + 1) (k + 1)) (k + 1) (u32s (List.replicate (k + 1) 0)) := by
    have e : (madeCells (Value.int .u32 0).cells ((k + 1) * 1)).toList = u32s (List.replicate (k + 1) 0) := by
      rw [Nat.mul_one]
      show (madeCells #[Value.int .u32 0] (k + 1)).toList = _
      rw [toList_madeCells_one]; simp [u32s]
    rw [← e]; exact hown
  have hk0 : Keeps [] w wm := (Keeps.refl [] w).grown hgr (by simp)
  have co := hown'.cellAt k (by omega)
  rw [show (u32s (List.replicate (k + 1) 0))[k]? = some (.int .u32 0) by simp [u32s]] at co
  have fo := hown'.frozenAt k
  have hr32 : r < 32 := by omega
  obtain ⟨z, hz⟩ : ∃ z : Nat, z = 2 ^ r := ⟨_, rfl⟩
  have hpow : z < 4294967296 := by rw [hz]; exact Nat.lt_of_lt_of_le (Nat.pow_lt_pow_right (by omega) hr32) (Nat.le_refl _)
  have hzI : (2 : Int) ^ r % 4294967296 = (z : Int) := by
    have : ((2 ^ r : Nat) : Int) = (2 : Int) ^ r := by simp
    rw [← this, ← hz]; omega
  have hst := (hown'.stored k (.int .u32 (z : Int))).1
  rw [u32s_set] at hst
  have hLt : Lt32 ((List.replicate (k + 1) 0).set k z) := Lt32.set (fun x hx => by have := (List.mem_replicate.1 hx).2; subst this; decide) (by rw [W32_eq]; exact hpow) k
  have hk1 := hk0.setCell (p := ⟨w.heap.size, k, none⟩) (fun h => absurd h (Nat.lt_irrefl _)) (.int .u32 (z : Int))
  obtain ⟨a', c', he, hN⟩ := N32.of_own hst hLt
  simp only [Value.slice.injEq] at he
  obtain ⟨he1, _, he2⟩ := he
  subst he1 he2
  have HN := Lib.hid hN; have HK := Lib.hid hk1
  have HV : Hid (val32 ((List.replicate (k + 1) 0).set k z) = 2 ^ b) := Lib.hid (by rw [hz, hk, hr]; exact val32_mers b)
  have hb1 : (1 : Nat) ≤ 2 ^ b := Nat.pow_pos (by omega)
  have HKK := Lib.hid hk; have HB1 := Lib.hid hb1
  have hne : (List.replicate (k + 1) 0).set k z ≠ [] := List.ne_nil_of_length_pos (by simp)
  have HNE := Lib.hid hne
  clear hz hb1 hne hLt
  clear hown hgr hown' hk0 hst hN hk1 hmk hi hz0 hz1 hz2 hk hr
  go_enter Tryz.func28, Tryz.ntmps28
  go_wp2_with fail
  refine (lLess_any _ (k + 1) (k + 1) 1 _ _ HN.out (by omega) HNE.out (by omega) (by rw [HV.out]; exact HB1.out)).mono ?_
  rintro e w2 ⟨⟨a2, n2, c2, rfl, hM⟩, hk2⟩
  rw [HV.out] at hM
  have HM := Lib.hid hM; have HK2 := Lib.hid (HK.out.trans1 hk2)
  clear hM hk2
  go_wp2
  go_ret
  exact ⟨⟨a2, n2, c2, rfl, by rw [← HKK.out]; exact HM.out⟩, HK2.out⟩

end Go.Proofs.YtnfjmngchapdnaaGreatDoor

/- bigmod: shiftIn (x = x * 2^64 + y mod m). -/
namespace Go.Proofs.YtnfjmngchapdnaaGreatDoor
open Go.RowKit

/-- The list that stands, of two. -/
def pickL (nd : Nat) (X D : List Nat) : List Nat := if nd = 1 then D else X
theorem pickL_len {nd n : Nat} {X D : List Nat} (h1 : X.length = n) (h2 : D.length = n) : (pickL nd X D).length = n := by unfold pickL; split <;> assumption

theorem sh_round {C X : List Nat} {b cy cy' s k : Nat} (hk : k < X.length) (hc : k < C.length) (h : val (X.take k) + cy * BB ^ k = 2 * val (C.take k) + b) (hr : AddR C[k] C[k] cy s cy') :
    val ((X.set k s).take (k + 1)) + cy' * BB ^ (k + 1) = 2 * val (C.take (k + 1)) + b := by
  rw [val_take_succ _ k (by simpa using hk), val_take_succ C k hc]
  rw [List.take_set_of_le (by omega), List.getElem_set_self]
  have h2 := congrArg (BB ^ k * ·) hr.eq
  simp only [Nat.mul_add] at h2
  have e : cy' * BB ^ (k + 1) = BB ^ k * (cy' * BB) := by
    rw [Nat.pow_succ, ← Nat.mul_assoc, Nat.mul_comm cy', Nat.mul_assoc]
  rw [e]
  have e2 : cy * BB ^ k = BB ^ k * cy := Nat.mul_comm _ _
  rw [e2] at h
  omega
theorem sh_sub {D X M : List Nat} {bo bo' s k : Nat} (hk : k < D.length) (hx : k < X.length) (hm : k < M.length) (h : val (D.take k) + val (M.take k) = val (X.take k) + bo * BB ^ k) (hr : SubR X[k] M[k] bo s bo') :
    val ((D.set k s).take (k + 1)) + val (M.take (k + 1)) = val (X.take (k + 1)) + bo' * BB ^ (k + 1) := by
  rw [val_take_succ _ k (by simpa using hk), val_take_succ X k hx, val_take_succ M k hm]
  rw [List.take_set_of_le (by omega), List.getElem_set_self]
  have h2 := congrArg (BB ^ k * ·) hr.eq
  simp only [Nat.mul_add] at h2
  have e : bo' * BB ^ (k + 1) = BB ^ k * (bo' * BB) := by
    rw [Nat.pow_succ, ← Nat.mul_assoc, Nat.mul_comm bo', Nat.mul_assoc]
  rw [e]
  have e2 : bo * BB ^ k = BB ^ k * bo := Nat.mul_comm _ _
  rw [e2] at h
  omega
/-- The end of a round of bits. -/
theorem sh_end {c b m R X D cy bo : Nat} (hc : c < m) (hb : b ≤ 1) (hX : X < R) (hD : D < R) (hm : m < R) (hcy : cy ≤ 1) (hbo : bo ≤ 1) (h1 : X + cy * R = 2 * c + b) (h2 : D + m = X + bo * R) :
    (if ¬ bo = 1 ∨ cy = 1 then D else X) = (2 * c + b) % m := by
  have h0 : (2 * c + b) % m = if 2 * c + b < m then 2 * c + b else 2 * c + b - m := by
    split
    · rename_i h; exact Nat.mod_eq_of_lt h
    · rw [Nat.mod_eq_sub_mod (by omega), Nat.mod_eq_of_lt (by omega)]
  rw [h0]
  rcases (by omega : cy = 0 ∨ cy = 1) with rfl | rfl <;> rcases (by omega : bo = 0 ∨ bo = 1) with rfl | rfl <;> simp at * <;> (try split) <;> omega
theorem sh_bit (v y m j : Nat) : (2 * ((v * 2 ^ (64 - (j + 1)) + y / 2 ^ (j + 1)) % m) + y / 2 ^ j % 2) % m = (v * 2 ^ (64 - (j + 1) + 1) + y / 2 ^ j) % m := by
  have h1 : y / 2 ^ (j + 1) = y / 2 ^ j / 2 := by rw [Nat.pow_succ, Nat.div_div_eq_div_mul]
  rw [h1]
  have h2 := Nat.div_add_mod (y / 2 ^ j) 2
  rw [Nat.add_mod, Nat.mul_mod, Nat.mod_mod, ← Nat.mul_mod, ← Nat.add_mod]
  congr 1
  rw [Nat.pow_succ]
  have : v * (2 ^ (64 - (j + 1)) * 2) = 2 * (v * 2 ^ (64 - (j + 1))) := by rw [← Nat.mul_assoc, Nat.mul_comm]
  omega

set_option maxRecDepth 100000 in
set_option maxHeartbeats 2000000 in
theorem nat_shiftIn (p lb n c v y pm pn ln m m0 : Nat) (odd : Bool) (rv : Value) (w : World) (hx : NatV w p lb n c v) (hm : ModB w pm pn ln n m odd m0 rv) (hl : ln ≠ lb) (hc : c ≤ 1000) (hv : v < m) (hy : y < BB) :
    Calls Tryz.prog 92 #[.pointer (some ⟨p, 0, none⟩), .int .u64 (y : Int), .pointer (some ⟨pm, 0, none⟩)] w fun e w' =>
      e = .returned (.pointer (some ⟨p, 0, none⟩)) ∧ NatV w' p lb n c ((v * BB + y) % m) ∧ Keeps [lb] w w' := by
  have hn32 := hm.nat.le
  have g1 := hx.le
  go_enter Tryz.func92, Tryz.ntmps92
  go_wp2_with fail
  refine (newNat_any _).mono ?_
  rintro e w1 ⟨pt, lt, rfl, ht, hpt, hlt, hk1⟩
  have o1 := hx.old hpt; have o2 := hx.old hlt; have o3 := hm.old hpt; have o4 := hm.old hlt
  have hx1 := hx.kept hk1
  have hm1 := hm.kept hk1
  go_wp2_with fail
  refine (nat_resetFor pt lt 0 32 0 pm pn ln n m m0 odd rv _ ht hm1 hn32 (by omega)).mono ?_
  rintro e w2 ⟨rfl, ht2, hk2⟩
  have hx2 := hx1.keeps hk2 (by simp [o1.1, o2.1]) (by simp [o1.2, o2.2])
  have hm2 := hm1.keeps hk2 (by simp [o3.1, o4.1]) (by simp [o3.2.1, o4.2.1]) (by simp [o3.2.2, o4.2.2])
  have cm := hm2.hdr.c0
  have cn := hm2.nat.hdr.cell
  have cx := hx2.hdr.cell
  have ct := ht2.hdr.cell
  have hkk : Keeps [] w w2 := (hk1.trans hk2 (by intro x hx hlt; simp at hx; omega))
  have HPT := Lib.hid ht2; have HPX := Lib.hid hx2
  have HK := Lib.hid hkk
  obtain ⟨hh, L, J, hL1, hL2, hL3, hL4, hL5⟩ := hx2
  obtain ⟨hth, D0, I0, hD1, hD2, hD3, hD4, hD5⟩ := ht2
  obtain ⟨hmh, M, JM, hM1, hM2, hM3, hM4, hM5⟩ := hm2.nat
  have n1 : lt ≠ lb := Ne.symm o2.2
  have n2 : lt ≠ ln := Ne.symm o4.2.2
  have KL2 := Lib.hid hL2; have KL3 := Lib.hid hL3; have KL5 := Lib.hid hL5; have KM2 := Lib.hid hM2; have KM5 := Lib.hid hM5
  have KD2 := Lib.hid hD2; have KD3 := Lib.hid hD3; have KD5 := Lib.hid hD5
  have HX0 := Lib.hid hx; have HM0 := Lib.hid hm
  clear hh hth hmh hL2 hL3 hL5 hM2 hM3 hM5 hD2 hD3 hD5 hx1 hm1 hm2 hk1 hk2 hkk hx hm ht o1 o2 o3 o4
  go_wp2_with fail
  clear cm cn cx ct
  go_loopg [12, 13] 64 (fun gn nv iv wx => ∃ (j nd : Nat) (I : Int) (X D : List Nat), gn = j ∧ nv = .int .u64 (nd : Int) ∧ iv = .int .i64 I ∧ Hid (I = (j : Int) - 1) ∧ j ≤ 64 ∧ nd ≤ 1 ∧ Hid (X.length = n) ∧ Hid (D.length = n) ∧ Lt X ∧ Lt D ∧ Hid (Row wx lb (X ++ J)) ∧ Hid (Row wx lt (D ++ I0)) ∧ Hid (val (pickL nd X D) = (v * 2 ^ (64 - j) + y / 2 ^ j) % m) ∧ Hid (Keeps [lb, lt] w2 wx))
  case atStart =>
    refine ⟨64, 0, _, L, D0, rfl, rfl, rfl, Lib.hid (by omega), Nat.le_refl _, by omega, KL2, KD2, hL4, hD4, Lib.hid hL1, Lib.hid hD1, Lib.hid ?_, Lib.hid (Keeps.refl _ _)⟩
    unfold BB at hy
    rw [Nat.div_eq_of_lt (by omega)]
    simp [pickL, KL5.out, Nat.mod_eq_of_lt hv]
  case round =>
    obtain ⟨j, nd, I, X, D, hgj, rfl, rfl, hI, hj, hnd, hXn, hDn, hXl, hDl, hX, hD, hval, hK⟩ := hrel
    cases j with
    | zero =>
      have i1 : decide (0 ≤ I) = false := by have := hI.out; simp; omega
      go_wp2_with fail
      have hxx : NatV wr p lb n c (val X) := ⟨HPX.out.hdr.keeps hK.out (by simp [HPX.out.ne, HPX.out.ne2 HPT.out]), X, J, hX.out, hXn.out, by have := hXn.out; have := KL3.out; have := KL2.out; omega, hXl, rfl⟩
      have hdd : NatV wr pt lt n 32 (val D) := ⟨HPT.out.hdr.keeps hK.out (by simp [HPT.out.ne, HPT.out.ne2 HPX.out]), D, I0, hD.out, hDn.out, by have := hDn.out; have := KD3.out; have := KD2.out; omega, hDl, rfl⟩
      refine (nat_assign (pr := nd = 1) p lb pt lt n c 32 (val X) (val D) nd _ hxx hdd (Ne.symm n1) ⟨hnd, Iff.rfl⟩ (by omega)).mono ?_
      rintro e w3 ⟨v', rfl, hv1, hv2, hx3, hk3⟩
      have e1 : v' = (v * BB + y) % m := by
        have h0 := hval.out
        rw [Nat.pow_zero, Nat.div_one, Nat.sub_zero, ← BB_eq] at h0
        rw [← h0]
        unfold pickL
        split
        · rename_i h; exact hv1 h
        · rename_i h; exact hv2 h
      subst e1
      have HX3 := Lib.hid hx3
      have HK3 := Lib.hid (((HK.out.mono (T := [lb]) (by simp)).trans hK.out (by intro x hx hlt; simp at hx ⊢; omega)).trans1 hk3)
      clear hx3 hk3 hv1 hv2 hxx hdd
      go_wp2
      go_ret
      exact ⟨rfl, HX3.out, HK3.out⟩
    | succ j =>
      have hI' : I = (j : Int) := by have := hI.out; omega
      subst hI'
      obtain ⟨yj, hyj⟩ : ∃ z, z = y / 2 ^ j := ⟨_, rfl⟩
      have hyl : yj < BB := by
        have h1 : y / 2 ^ j ≤ y := Nat.div_le_self _ _
        omega
      have hand := and_one yj hyl
      have hyI : (y : Int) / 2 ^ j = (yj : Int) := by rw [hyj]; simp
      have HY := Lib.hid hyj
      clear hyj
      obtain ⟨b, hb⟩ : ∃ b, b = yj % 2 := ⟨_, rfl⟩
      have hb1 : b ≤ 1 := by omega
      rw [← hb] at hand
      have HB := Lib.hid hb
      clear hb
      go_wp2_with fail
      refine (ctMask_any (p := nd = 1) nd ⟨hnd, Iff.rfl⟩ _).mono ?_
      rintro e w3 ⟨mk, rfl, hmk, rfl⟩
      go_wp2_with fail
      go_loopg [14, 15, 17] n (fun gn cv bv iv wx => ∃ (k cy bo : Nat) (X' D' : List Nat), gn = n - k ∧ cv = .int .u64 (cy : Int) ∧ bv = .int .u64 (bo : Int) ∧ iv = .int .i64 (k : Int) ∧ k ≤ n ∧ cy ≤ 1 ∧ bo ≤ 1 ∧ Hid (X'.length = n) ∧ Hid (D'.length = n) ∧ Lt X' ∧ Lt D' ∧ Hid (Row wx lb (X' ++ J)) ∧ Hid (Row wx lt (D' ++ I0)) ∧ Hid (X'.drop k = X.drop k) ∧ Hid (D'.drop k = D.drop k) ∧ Hid (val (X'.take k) + cy * BB ^ k = 2 * val ((pickL nd X D).take k) + b) ∧ Hid (val (D'.take k) + val (M.take k) = val (X'.take k) + bo * BB ^ k) ∧ Hid (Keeps [lb, lt] w2 wx))
      case atStart =>
        exact ⟨0, b, 0, X, D, rfl, rfl, rfl, rfl, Nat.zero_le _, hb1, by omega, hXn, hDn, hXl, hDl, hX, hD, Lib.hid rfl, Lib.hid rfl, Lib.hid (by simp [val]), Lib.hid (by simp [val]), hK⟩
      case round =>
        obtain ⟨k, cy, bo, X', D', hgk, rfl, rfl, rfl, hk, hcy, hbo, hXn', hDn', hXl', hDl', hX', hD', hXd, hDd, hsum, hsub, hK'⟩ := hrel
        by_cases hlt2 : k < n
        · have c1 := hX'.out.cell k (by have := hXn'.out; simp; omega)
          have c2 := hD'.out.cell k (by have := hDn'.out; simp; omega)
          have c3 := hX'.out.free k
          have b1 := hXl'.get k (by have := hXn'.out; omega)
          have b2 := hDl'.get k (by have := hDn'.out; omega)
          have b3 := hM4.get k (by have := KM2.out; omega)
          rw [List.getElem_append_left (by have := hXn'.out; omega)] at c1
          rw [List.getElem_append_left (by have := hDn'.out; omega)] at c2
          obtain ⟨xk, hxk⟩ : ∃ x, X'[k]'(by have := hXn'.out; omega) = x := ⟨_, rfl⟩
          obtain ⟨dk, hdk⟩ : ∃ x, D'[k]'(by have := hDn'.out; omega) = x := ⟨_, rfl⟩
          obtain ⟨mk', hmk'⟩ : ∃ x, M[k]'(by have := KM2.out; omega) = x := ⟨_, rfl⟩
          rw [hxk] at c1 b1
          rw [hdk] at c2 b2
          rw [hmk'] at b3
          have Hxk := Lib.hid hxk; have Hdk := Lib.hid hdk; have Hmk := Lib.hid hmk'; clear hxk hdk hmk'
          obtain ⟨z, hz, hz1, hz2, hz3⟩ := pick_mask hmk xk dk b1 b2
          have Hz2 := Lib.hid hz2; have Hz3 := Lib.hid hz3; clear hz2 hz3
          go_wp2_with fail
          refine wp_region_txt [0,0,0,1,0,0,0,0,1,0,0,0,1,0,0,0,0] (fun _ => True) (by kernel_rfl) (by kernel_rfl) trivial ?_
          simp only [withMarks]
          repeat (first
            | ((with_reducible refine txt_v (v := ?_) ?_ ?_); (any_goals ((with_reducible refine Yl.mk ?_ ?_); rfl; intro w hSw; (go_simp <;> (try go_bits) <;> (repeat (first | rw [if_pos (by omega)] | rw [if_neg (by omega)])) <;> with_reducible rfl))); try simp only [Act.put, List.setIfInBounds_toArray, List.set_cons_zero, List.set_cons_succ])
            | ((with_reducible refine txt_u ?_ ?_); rfl; try simp only [Act.put, List.setIfInBounds_toArray, List.set_cons_zero, List.set_cons_succ])
            | ((with_reducible refine txt_l (v := ?_) ?_ ?_); (any_goals ((with_reducible refine Reads.mk ?_ ?_); rfl; (go_simp <;> (try go_bits) <;> (repeat (first | rw [if_pos (by omega)] | rw [if_neg (by omega)])) <;> with_reducible rfl))); try simp only [Act.put, List.setIfInBounds_toArray, List.set_cons_zero, List.set_cons_succ])
            | ((with_reducible refine txt_e ?_ ?_); rfl; intro K hK; go_simp; (first | (refine hK _ _ trivial ?_) | ((first | fail); dsimp only; refine hK _ _ trivial ?_)); clear hK K; try simp only [Act.put, List.setIfInBounds_toArray, List.set_cons_zero, List.set_cons_succ]))
          refine txt_nil ?_
          go_wp2_with fail
          refine (add_any z z cy hz1 hz1 hcy _).mono ?_
          rintro e w3 ⟨s, cy', rfl, hR, rfl⟩
          go_wp2_with fail
          have q1 : Row (wr.setCell ⟨lb, k, none⟩ (.int .u64 (s : Int))).drew lb (X'.set k s ++ J) := by
            have := (hX'.out.set k s).drew
            rw [List.set_append_left _ _ (by have := hXn'.out; omega)] at this; exact this
          have q2 : Row (wr.setCell ⟨lb, k, none⟩ (.int .u64 (s : Int))).drew lt (D' ++ I0) := (hD'.out.other (a := ⟨lb, k, none⟩) n1 _).drew
          have q3 : Keeps [lb, lt] w2 (wr.setCell ⟨lb, k, none⟩ (.int .u64 (s : Int))).drew := (hK'.out.setCell (by simp) _).drew
          obtain ⟨w4, hw4⟩ : ∃ w4, w4 = (wr.setCell ⟨lb, k, none⟩ (.int .u64 (s : Int))).drew := ⟨_, rfl⟩
          rw [← hw4] at q1 q2 q3
          rw [← hw4]
          clear hw4 c1 c2 c3 hz
          have hsl := hR.lt
          have HR := Lib.hid hR; clear hR
          have d1 := q1.cell k (by have := hXn'.out; simp; omega)
          rw [List.getElem_append_left (by have := hXn'.out; simp; omega), List.getElem_set_self] at d1
          have d2 := (hM1.keeps q3 (by simp [hl, Ne.symm n2])).cell k (by have := KM2.out; simp; omega)
          rw [List.getElem_append_left (by have := KM2.out; omega), Hmk.out] at d2
          have d3 := q2.free k
          have d4 := q2.cell k (by have := hDn'.out; simp; omega)
          have Q1 := Lib.hid q1; have Q2 := Lib.hid q2; have Q3 := Lib.hid q3
          clear q1 q2 q3
          go_wp2_with fail
          refine wp_region_txt [0,0,0,0,0,1,0,0,0,1,0,2,0,0,0,0,2,0] (fun _ => True) (by kernel_rfl) (by kernel_rfl) trivial ?_
          simp only [withMarks]
          repeat (first
            | ((with_reducible refine txt_v (v := ?_) ?_ ?_); (any_goals ((with_reducible refine Yl.mk ?_ ?_); rfl; intro w hSw; (go_simp <;> (try go_bits) <;> (repeat (first | rw [if_pos (by omega)] | rw [if_neg (by omega)])) <;> with_reducible rfl))); try simp only [Act.put, List.setIfInBounds_toArray, List.set_cons_zero, List.set_cons_succ])
            | ((with_reducible refine txt_u ?_ ?_); rfl; try simp only [Act.put, List.setIfInBounds_toArray, List.set_cons_zero, List.set_cons_succ])
            | ((with_reducible refine txt_l (v := ?_) ?_ ?_); (any_goals ((with_reducible refine Reads.mk ?_ ?_); rfl; (go_simp <;> (try go_bits) <;> (repeat (first | rw [if_pos (by omega)] | rw [if_neg (by omega)])) <;> with_reducible rfl))); try simp only [Act.put, List.setIfInBounds_toArray, List.set_cons_zero, List.set_cons_succ])
            | ((with_reducible refine txt_e ?_ ?_); rfl; intro K hK; go_simp; (first | (refine hK _ _ trivial ?_) | ((first | (go_at_call 88; refine (sub_any _ _ _ hsl b3 hbo _).mono ?_; rintro e w' ⟨s2, bo', rfl, hR2, rfl⟩)); dsimp only; refine hK _ _ trivial ?_)); clear hK K; try simp only [Act.put, List.setIfInBounds_toArray, List.set_cons_zero, List.set_cons_succ]))
          refine txt_nil ?_
          have HR2 := Lib.hid hR2
          have hbo' := hR2.le
          have hs2 := hR2.lt
          have hcy' := HR.out.le
          clear hR2
          go_wp2_with fail
          go_roundg (n - (k + 1))
          case measure => omega
          case rel =>
            have hXn2 := hXn'.out
            have hDn2 := hDn'.out
            have hMn2 := KM2.out
            have hpn : (pickL nd X D).length = n := pickL_len hXn.out hDn.out
            have hxe : X[k]'(by have := hXn.out; omega) = xk := by
              rw [← Hxk.out]
              have := congrArg (fun l => l[0]?) hXd.out
              simp [List.getElem?_drop] at this
              rw [List.getElem?_eq_getElem (by omega), List.getElem?_eq_getElem (by have := hXn.out; omega)] at this
              simpa using this.symm
            have hde : D[k]'(by have := hDn.out; omega) = dk := by
              rw [← Hdk.out]
              have := congrArg (fun l => l[0]?) hDd.out
              simp [List.getElem?_drop] at this
              rw [List.getElem?_eq_getElem (by omega), List.getElem?_eq_getElem (by have := hDn.out; omega)] at this
              simpa using this.symm
            have hz : (pickL nd X D)[k]'(by omega) = z := by
              by_cases h : nd = 1
              · have e : pickL nd X D = D := by unfold pickL; rw [if_pos h]
                simp only [e]; rw [hde, Hz2.out h]
              · have e : pickL nd X D = X := by unfold pickL; rw [if_neg h]
                simp only [e]; rw [hxe, Hz3.out h]
            refine ⟨k + 1, cy', bo', X'.set k s, D'.set k s2, rfl, rfl, rfl, by go_num, by omega, hcy', hbo', Lib.hid (by simp [hXn2]), Lib.hid (by simp [hDn2]), hXl'.set _ _ hsl, hDl'.set _ _ hs2, Lib.hid (Q1.out.other (a := ⟨lt, k, none⟩) (Ne.symm n1) _).drew, Lib.hid ?_, Lib.hid ?_, Lib.hid ?_, Lib.hid ?_, Lib.hid ?_, Lib.hid (Q3.out.setCell (by simp) _).drew⟩
            · have := (Q2.out.set k s2).drew
              rw [List.set_append_left _ _ (by omega)] at this; exact this
            · have := congrArg (List.drop 1) hXd.out
              rw [List.drop_set_of_lt (by omega)]
              simpa [List.drop_drop, Nat.add_comm] using this
            · have := congrArg (List.drop 1) hDd.out
              rw [List.drop_set_of_lt (by omega)]
              simpa [List.drop_drop, Nat.add_comm] using this
            · exact sh_round (by omega) (by omega) hsum.out (by rw [hz]; exact HR.out)
            · refine sh_sub (bo := bo) (by omega) (by simp; omega) (by omega) ?_ (by rw [List.getElem_set_self, Hmk.out]; exact HR2.out)
              rw [List.take_set_of_le (by omega)]
              exact hsub.out
        · have : k = n := by omega
          subst this
          go_wp2_with fail
          refine (not_any (p := bo = 1) bo ⟨hbo, Iff.rfl⟩ _).mono ?_
          rintro e w3 ⟨r, rfl, hr, rfl⟩
          obtain ⟨r2, hor, hr2⟩ := or_ch hr (⟨hcy, Iff.rfl⟩ : Ch (cy = 1) cy)
          have HR2 := Lib.hid hr2
          have hr2l := hr2.le
          clear hr2 hr
          go_wp2_with fail
          go_roundg j
          case measure => omega
          case rel =>
            refine ⟨j, r2, _, X', D', rfl, rfl, rfl, Lib.hid (by omega), by omega, hr2l, hXn', hDn', hXl', hDl', hX', hD', Lib.hid ?_, hK'⟩
            have hXn2 := hXn'.out
            have hDn2 := hDn'.out
            have hpn : (pickL nd X D).length = k := pickL_len hXn.out hDn.out
            have hs := hsum.out
            have ht := hsub.out
            rw [List.take_of_length_le (by omega), List.take_of_length_le (by omega)] at hs
            rw [List.take_of_length_le (by omega), List.take_of_length_le (by have := KM2.out; omega), List.take_of_length_le (by omega), KM5.out] at ht
            have hmR : m < BB ^ k := by
              have := val_lt hM4
              rw [KM5.out, KM2.out] at this; exact this
            have hend := sh_end (c := val (pickL nd X D)) (b := b) (m := m) (R := BB ^ k) (X := val X') (D := val D') (by rw [hval.out]; exact Nat.mod_lt _ (by omega)) hb1 (by have := val_lt hXl'; rwa [hXn2] at this) (by have := val_lt hDl'; rwa [hDn2] at this) hmR hcy hbo hs ht
            rw [hval.out, HB.out, HY.out, sh_bit] at hend
            rw [show 64 - j = 64 - (j + 1) + 1 by omega, ← hend]
            unfold pickL
            by_cases h : ¬ bo = 1 ∨ cy = 1
            · rw [if_pos h, if_pos (HR2.out.yes h)]
            · rw [if_neg h, if_neg (by rw [HR2.out.no h]; omega)]

end Go.Proofs.YtnfjmngchapdnaaGreatDoor
