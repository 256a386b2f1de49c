import Derived.Test.YtnfjmngchapdnaaMLProd
/- Numbers of 32-bit words: lShifted. -/
namespace Go.Proofs.Ytnfjmngchapdnaa
open Go.RowKit

/-- A row of words of one's own that was returned. -/
def RetOwn (e : Ending) (w' : World) (B : Nat) (p : List Nat → Prop) : Prop :=
  ∃ v M, e = .returned v ∧ w'.ownsRow B 46 1 v M.length (u32s M) ∧ Lt32 M ∧ p M
theorem or_comm32 (a b : Int) : Go.bits .or .u32 a b = Go.bits .or .u32 b a := by
  show IntKind.u32.wrap ((BitVec.ofInt 32 a ||| BitVec.ofInt 32 b).toNat : Int) = IntKind.u32.wrap ((BitVec.ofInt 32 b ||| BitVec.ofInt 32 a).toNat : Int)
  rw [BitVec.or_comm]
theorem shl_parts (x m s : Nat) (hx : x < 4294967296) (hs : s < 32) (hm : m < 2 ^ s) :
    ∃ lo hi z : Nat, ((x : Int) * 2 ^ s) % 4294967296 = (lo : Int) ∧ Go.bits .or .u32 (lo : Int) (m : Int) = (z : Int) ∧ z = lo + m ∧ z < W32 ∧ x * 2 ^ s = lo + W32 * hi ∧ hi < 2 ^ s ∧ (0 < s → hi = x / 2 ^ (32 - s)) ∧ (s = 0 → hi = 0) := by
  have hp : 2 ^ s * 2 ^ (32 - s) = 4294967296 := by rw [← Nat.pow_add, show s + (32 - s) = 32 by omega]
  have h0 : 0 < 2 ^ s := Nat.pow_pos (by omega)
  have h1 : 0 < 2 ^ (32 - s) := Nat.pow_pos (by omega)
  have hb : x % 2 ^ (32 - s) < 2 ^ (32 - s) := Nat.mod_lt _ h1
  have e1 : x * 2 ^ s = 2 ^ s * (x % 2 ^ (32 - s)) + 4294967296 * (x / 2 ^ (32 - s)) := by
    rw [← hp, Nat.mul_assoc, ← Nat.mul_add, Nat.mul_comm x]
    congr 1
    exact (Nat.mod_add_div x (2 ^ (32 - s))).symm
  have h2 : 2 ^ s * (x % 2 ^ (32 - s) + 1) ≤ 2 ^ s * 2 ^ (32 - s) := Nat.mul_le_mul_left _ hb
  rw [Nat.mul_add, Nat.mul_one, hp] at h2
  obtain ⟨lo, hlo⟩ : ∃ lo, lo = 2 ^ s * (x % 2 ^ (32 - s)) := ⟨_, rfl⟩
  have hor := or_u32 m (x % 2 ^ (32 - s)) s hm (by omega)
  rw [← hlo] at hor e1 h2
  have e2 : ((x : Int) * 2 ^ s) = ((x * 2 ^ s : Nat) : Int) := by rw [Int.natCast_mul, Int.natCast_pow]; rfl
  have hhi : x / 2 ^ (32 - s) < 2 ^ s := by
    rw [Nat.div_lt_iff_lt_mul h1, hp]; exact hx
  refine ⟨lo, x / 2 ^ (32 - s), lo + m, ?_, ?_, rfl, ?_, ?_, hhi, fun _ => rfl, fun h => ?_⟩
  · rw [e2, e1]; omega
  · rw [or_comm32]; exact hor
  · rw [W32_eq]; omega
  · rw [W32_eq]; exact e1
  · subst h; simp; omega

theorem shift_step {V V' i m x s z lo hi o T T' : Nat} (hV : V + W32 ^ i * m = T * 2 ^ s) (hput : V' = V + W32 ^ i * z) (hz : z = lo + m) (hx : x * 2 ^ s = lo + W32 * hi) (hT : T' = T + W32 ^ i * x) :
    V' + W32 ^ (i + 1) * hi = T' * 2 ^ s := by
  have h1 : W32 ^ (i + 1) * hi = W32 ^ i * (W32 * hi) := by rw [Nat.pow_succ, Nat.mul_assoc]
  have h2 : W32 ^ i * z = W32 ^ i * lo + W32 ^ i * m := by rw [hz, Nat.mul_add]
  have h3 : T' * 2 ^ s = T * 2 ^ s + (W32 ^ i * lo + W32 ^ i * (W32 * hi)) := by
    rw [hT, Nat.add_mul, Nat.mul_assoc, hx, Nat.mul_add]
  omega

set_option maxRecDepth 100000 in
set_option maxHeartbeats 2000000 in
theorem lShifted_any (a : Option Addr) (n c s : Nat) (A : List Nat) (w : World) (hA : N32 w a n c A) (hn : n ≤ 1000) (hs : s < 32) :
    Calls Try.prog 30 #[.slice a n c, .int .i64 (s : Int)] w fun e w' =>
      RetOwn e w' w.heap.size (fun M => val32 M = val32 A * 2 ^ s ∧ (M.length = n ∨ (M.length = n + 1 ∧ W32 ^ n ≤ val32 M))) ∧ Keeps [] w w' := by
  obtain ⟨i0, hi, hz0, hz1, hz2⟩ := info_parts info_u32
  have hu := und_lnum
  obtain ⟨wm, hmk, hown, hgr⟩ := run_make_full (P := Try.prog) w w.heap.size 29 46 i0 (.int .u32 0) 1 und_lnum hi hz0 hz1 .i64 .i64 n (by rw [hz2]; omega) (by unfold maxLen; omega) (Nat.le_refl _)
  have hown' : wm.ownsRow w.heap.size 46 1 (.slice (some ⟨w.heap.size, 0, none⟩) n n) n (u32s (List.replicate n 0)) := by
    have e : (madeCells (Value.int .u32 0).cells (n * 1)).toList = u32s (List.replicate n 0) := by
      rw [Nat.mul_one]
      show (madeCells #[Value.int .u32 0] n).toList = _
      rw [toList_madeCells_one]; simp [u32s]
    rw [← e]; exact hown
  have hk0 : Keeps [] w wm := (Keeps.refl [] w).grown hgr (by simp)
  have HO0 := Lib.hid hown'; have HK0 := Lib.hid hk0
  clear hown hgr hown' hk0
  obtain ⟨gA1, gA2, gA3, gA4⟩ := hA
  have GA1 := Lib.hid gA1; have GA4 := Lib.hid gA4
  clear gA1 gA4
  go_enter Try.func30, Try.ntmps30
  go_wp2
  clear hmk
  go_loopw [6, 7] (fun mv ii wr => ∃ (m i : Nat) (O : List Nat), mv = .int .u32 (m : Int) ∧ ii = .int .i64 (i : Int) ∧ i ≤ n ∧ m < 2 ^ s ∧ Hid (O.length = n) ∧ Lt32 O ∧ Hid (wr.ownsRow w.heap.size 46 1 (.slice (some ⟨w.heap.size, 0, none⟩) n n) n (u32s O)) ∧ Hid (val32 (O.take i) + W32 ^ i * m = val32 (A.take i) * 2 ^ s) ∧ Hid (Keeps [] w wr)) (fun _ ii _ => n - (intOf ii).toNat)
  case atStart =>
    exact ⟨0, 0, List.replicate n 0, by go_num, by go_num, by omega, Nat.pow_pos (by omega), Lib.hid (by simp), fun x hx => by have := (List.mem_replicate.1 hx).2; subst this; decide, HO0, Lib.hid (by simp [val32]), HK0⟩
  case round =>
    obtain ⟨m, i, O, rfl, rfl, hin, hm, hOl, hOlt, hO, hV, hK⟩ := hrel
    by_cases hlt : i < n
    · have i1 : (i : Int) < (n : Int) := by omega
      obtain ⟨bA, oA, rfl, hbA, hcA⟩ := GA4.out (by intro e; have := GA1.out; subst e; simp at this; omega)
      have hiA : i < A.length := by have := GA1.out; omega
      have hiO : i < O.length := by have := hOl.out; omega
      obtain ⟨x, hx⟩ : ∃ x, x = A[i] := ⟨_, rfl⟩
      have hxl := gA3 A[i] (List.getElem_mem _)
      have cA := Keeps.cell1 (hcA i hiA) hK.out hbA (by simp)
      rw [← hx] at cA hxl
      rw [W32_eq] at hxl
      have co := hO.out.cellAt i (by omega)
      have fo := hO.out.frozenAt i
      rw [show (u32s O)[i]? = some (.int .u32 (O[i] : Int)) by simp [u32s, hiO]] at co
      obtain ⟨lo, hh, z, e1, e2, e3, e4, e5, e6, e7, e8⟩ := shl_parts x m s hxl hs hm
      have HX := Lib.hid hx; have E3 := Lib.hid e3; have E4 := Lib.hid e4; have E5 := Lib.hid e5; have E7 := Lib.hid e7; have E8 := Lib.hid e8
      have M0 := Lib.hid hm
      clear hx hcA e3 e4 e5 e7 e8 hm
      have hst := (hO.out.stored i (.int .u32 (z : Int))).1
      rw [u32s_set] at hst
      have HST := Lib.hid hst
      have hks := hK.out.setCell (p := ⟨w.heap.size, i, none⟩) (fun h => absurd h (Nat.lt_irrefl _)) (.int .u32 (z : Int))
      have HKS := Lib.hid hks
      have hval : val32 ((O.set i z).take (i + 1)) + W32 ^ (i + 1) * hh = val32 (A.take (i + 1)) * 2 ^ s := by
        refine shift_step (o := 0) hV.out ?_ E3.out E5.out ?_
        · rw [val32_take_succ _ _ (by simp; omega), List.getElem_set_self, List.take_set_of_le (Nat.le_refl _)]
        · rw [HX.out]; exact val32_take_succ A i hiA
      have HVV := Lib.hid hval
      have hlt2 : Lt32 (O.set i z) := Lt32.set hOlt E4.out i
      clear hst hks hval
      rcases Nat.eq_zero_or_pos s with h0 | h0
      · have i2 : ¬ (0 : Int) < (s : Int) := by omega
        have hh0 : hh = 0 := E8.out h0
        have HH0 := Lib.hid hh0
        have H00 := Lib.hid h0
        clear hh0 h0
        go_wp2
        refine ⟨⟨0, i + 1, O.set i z, by go_num, by go_num, by omega, by omega, Lib.hid (by rw [List.length_set]; exact hOl.out), hlt2, HST, Lib.hid ?_, HKS⟩, by simp [intOf]; omega⟩
        have h := HVV.out
        rw [HH0.out] at h; exact h
      · have i2 : (0 : Int) < (s : Int) := by omega
        have i3 : (0 : Int) ≤ 32 - (s : Int) := by omega
        go_wp2
        have hh0 := E7.out h0
        have ei : (x : Int) / 2 ^ (32 - s) = (hh : Int) := by rw [hh0]; simp
        rw [ei]
        exact ⟨⟨hh, i + 1, O.set i z, rfl, by go_num, by omega, e6, Lib.hid (by rw [List.length_set]; exact hOl.out), hlt2, HST, HVV, HKS⟩, by simp [intOf]; omega⟩
    · have hin' : i = n := by omega
      have i1 : ¬ (i : Int) < (n : Int) := by omega
      have HI := Lib.hid hin'
      clear hin'
      have hv : val32 O + W32 ^ n * m = val32 A * 2 ^ s := by
        have h := hV.out
        rw [HI.out, List.take_of_length_le (by have := hOl.out; omega), List.take_of_length_le (by have := GA1.out; omega)] at h
        exact h
      have HV := Lib.hid hv
      clear hv
      by_cases hm0 : m = 0
      · subst hm0
        have hfin : val32 O = val32 A * 2 ^ s := by have := HV.out; simpa using this
        have HF := Lib.hid hfin
        clear hfin
        go_wp2
        go_ret
        refine ⟨⟨_, O, rfl, ?_, hOlt, HF.out, .inl hOl.out⟩, hK.out⟩
        rw [hOl.out]; exact hO.out
      · have i2 : (0 : Int) < (m : Int) := by omega
        have hmW : m < W32 := Nat.lt_trans hm (by rw [W32_eq]; exact Nat.lt_of_lt_of_le (Nat.pow_lt_pow_right (by omega) hs) (by omega))
        have hO2 : (wr.alloc (.cells #[.int .u32 (m : Int)] 46)).ownsRow w.heap.size 46 1 (.slice (some ⟨w.heap.size, 0, none⟩) n n) n (u32s O) := hO.out.alloc _
        have HO2 := Lib.hid hO2
        clear hO2
        go_wp2_with (at_builtin; refine wpList_append_own _ rfl _ _ 29 rfl w.heap.size 46 i0 (.int .u32 0) 1 4 hu hi hz0 hz1 hz2 rfl (by decide) _ _ _ rfl HO2.out ⟨wr.heap.size, 0, none⟩ 1 1 [.int .u32 (m : Int)] rfl ?qc1 ?qc2 ?qc3 ?qc4 ?qc5 ?qc6 ?_)
        case qc3 => rfl
        case qc4 => unfold maxLen; omega
        case qc5 => omega
        case qc6 => have := hK.out.size; simp; omega
        intro v' w1 hown hgrow hnil
        go_wp2
        go_ret
        have hOn := hOl.out
        refine ⟨⟨v', O ++ [m], rfl, ?_, ?_, ?_, .inr ⟨by simp [hOn], ?_⟩⟩, (hK.out.alloc _).grown hgrow (fun k hk hlt => ?_)⟩
        · have e : (O ++ [m]).length = n + 1 := by simp [hOn]
          rw [e]
          simpa [u32s] using hown
        · intro y hy
          rcases List.mem_append.1 hy with h | h
          · exact hOlt y h
          · simp at h; subst h; exact hmW
        · rw [val32_snoc, hOn]; exact HV.out
        · rw [val32_snoc, hOn]
          have : W32 ^ n * 1 ≤ W32 ^ n * m := Nat.mul_le_mul_left _ (by omega)
          omega
        · simp [Value.ownBlock] at hk; omega

end Go.Proofs.Ytnfjmngchapdnaa
