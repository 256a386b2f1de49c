import Derived.Test.YtnfjmngchapdnaaGreatDoorMClone
import Derived.Test.YtnfjmngchapdnaaGreatDoorMSetBytes
import Derived.Laws.OwnMore
/- spec.LOf. -/
namespace Go.Proofs.YtnfjmngchapdnaaGreatDoor
open Go.RowKit

def bytesOf (s : ByteArray) : List Nat := s.data.toList.map UInt8.toNat
theorem bytesOf_len (s : ByteArray) : (bytesOf s).length = s.size := by simp [bytesOf]
theorem bytesOf_lt (s : ByteArray) : LtB (bytesOf s) := by
  intro x hx
  obtain ⟨y, _, rfl⟩ := List.mem_map.1 hx
  exact y.toNat_lt
theorem bytesOf_get (s : ByteArray) (i : Nat) (h : i < s.size) : (s[i]'h).toNat = (bytesOf s)[i]'(by rw [bytesOf_len]; exact h) := by
  simp [bytesOf]; rfl
theorem und_lnum : Tryz.prog.underlying 39 = some (.slice 62) := by kernel_rfl
theorem info_u32 : (Tryz.prog.info? 62).map (fun i => (i.zero, i.size, i.bytes)) = some (some (.int .u32 0), 1, 4) := by kernel_rfl

theorem or_shift32 (x y t : Nat) (hx : x < 256 ^ t) (hy : y < 256) (ht : t < 4) :
    ∃ z : Nat, Go.bits .or .u32 (x : Int) (IntKind.u32.wrap ((y : Int) * 2 ^ (8 * t))) = (z : Int) ∧ z = x + 256 ^ t * y ∧ z < 256 ^ (t + 1) ∧ z < W32 := by
  have e : (256 : Nat) ^ t = 2 ^ (8 * t) := by rw [Nat.pow_mul]
  have h1 : 2 ^ (8 * t) * (y + 1) ≤ 2 ^ (8 * t) * 256 := Nat.mul_le_mul_left _ hy
  have h2 : 2 ^ (8 * (t + 1)) = 2 ^ (8 * t) * 256 := by rw [show 8 * (t + 1) = 8 * t + 8 by omega, Nat.pow_add]
  have h3 : 2 ^ (8 * (t + 1)) ≤ 2 ^ 32 := Nat.pow_le_pow_right (by omega) (by omega)
  rw [e] at hx ⊢
  have hz : 2 ^ (8 * t) * y + x < 2 ^ (8 * (t + 1)) := by rw [h2]; rw [Nat.mul_add] at h1; omega
  have hlt : 2 ^ (8 * t) * y + x < 4294967296 := by omega
  have hb := or_u32 x y (8 * t) hx hlt
  have hw : IntKind.u32.wrap ((y : Int) * 2 ^ (8 * t)) = ((2 ^ (8 * t) * y : Nat) : Int) := by
    have e2 : ((y : Int) * 2 ^ (8 * t)) = ((2 ^ (8 * t) * y : Nat) : Int) := by rw [Int.natCast_mul, Int.natCast_pow]; exact Int.mul_comm _ _
    rw [e2, IntKind.wrap_u32]
    omega
  rw [hw]
  have e3 : (256 : Nat) ^ (t + 1) = 2 ^ (8 * (t + 1)) := by rw [Nat.pow_mul]
  exact ⟨2 ^ (8 * t) * y + x, hb, by omega, by rw [e3]; exact hz, hlt⟩

theorem val32_set (L : List Nat) (k x z : Nat) (hk : L[k]? = some x) (d : Nat) (hz : z = x + d) : val32 (L.set k z) = val32 L + W32 ^ k * d := by
  induction L generalizing k with
  | nil => simp at hk
  | cons y L ih =>
    cases k with
    | zero =>
      simp at hk
      subst hk
      simp only [List.set_cons_zero, val32, Nat.pow_zero, Nat.one_mul]
      omega
    | succ k =>
      simp only [List.getElem?_cons_succ] at hk
      simp only [List.set_cons_succ, val32, ih k hk, Nat.pow_succ, Nat.mul_add]
      rw [Nat.mul_comm (W32 ^ k) W32, Nat.mul_assoc]
      omega

/-- What an append to a row of words of one's own leaves. -/
theorem N32.of_own {w : World} {B : Nat} {v : Value} {n : Nat} {L : List Nat} (h : w.ownsRow B 62 1 v n (u32s L)) (hL : Lt32 L) :
    ∃ a c, v = .slice a n c ∧ N32 w a n c L := by
  have hn : L.length = n := by simpa [u32s] using h.1
  rcases h.2 with ⟨rfl, rfl⟩ | ⟨g, cap, cur, rfl, hb, hg, hc, hm, hs, ht⟩
  · have : L = [] := List.length_eq_zero_iff.1 hn
    subst this
    exact ⟨none, 0, rfl, ⟨rfl, Nat.le_refl _, hL, fun h => absurd rfl h⟩⟩
  · refine ⟨some ⟨g, 0, none⟩, cap, rfl, ⟨hn, hc, hL, fun _ => ⟨g, 0, rfl, lt_of_block hg, fun i hi => ?_⟩⟩⟩
    have h1 := h.cellAt i (by omega)
    rw [Nat.zero_add, h1]
    simp [u32s, hi]
theorem lof_step {L M1 : List Nat} {t q r x y z N : Nat} (hq : q = t / 4) (hr : r = t % 4) (hlen1 : M1.length = q + 1) (hl1 : Lt32 M1) (hv1 : val32 M1 = bval (L.drop (N - t))) (hx : M1[q]? = some x)
    (hz : z = x + 256 ^ r * y) (hzlt : z < 256 ^ (r + 1)) (hz32 : z < W32) (hN : L.length = N) (ht : t < N) (hy : L[N - 1 - t]'(by omega) = y) :
    (M1.set q z).length = (t + 1 + 3) / 4 ∧ Lt32 (M1.set q z) ∧ val32 (M1.set q z) = bval (L.drop (N - (t + 1))) ∧ (∀ x', (M1.set q z)[(t + 1) / 4]? = some x' → x' < 256 ^ ((t + 1) % 4)) := by
  refine ⟨by simp; omega, ?_, ?_, ?_⟩
  · intro a ha
    rcases List.mem_or_eq_of_mem_set ha with h | h
    · exact hl1 a h
    · rw [h]; exact hz32
  · rw [val32_set M1 q x z hx _ hz, hv1]
    have h1 := bval_byte L (N - t) t (by omega) (by omega)
    have e1 : N - t - 1 = N - 1 - t := by omega
    have e2 : N - (t + 1) = N - t - 1 := by omega
    rw [e2, h1]
    have e3 : W32 ^ q * (256 ^ r * y) = 256 ^ t * y := by
      rw [← Nat.mul_assoc]
      congr 1
      have e4 : W32 = 256 ^ 4 := by decide
      rw [e4, ← Nat.pow_mul, ← Nat.pow_add]
      congr 1; omega
    rw [e3]
    congr 1
    congr 1
    rw [← hy]
    simp only [e1]
  · intro x' hx'
    rcases Nat.lt_or_ge r 3 with h3 | h3
    · have e1 : (t + 1) / 4 = q := by omega
      have e2 : (t + 1) % 4 = r + 1 := by omega
      rw [e1] at hx'
      rw [List.getElem?_set_self (by omega)] at hx'
      simp at hx'
      subst hx'
      rw [e2]; exact hzlt
    · have e1 : (t + 1) / 4 = q + 1 := by omega
      rw [e1, List.getElem?_eq_none (by simp; omega)] at hx'
      simp at hx'
theorem or_byte32 (x y : Nat) : Go.bits .or .u32 (x : Int) ((y : Int) % 4294967296) = Go.bits .or .u32 (x : Int) (IntKind.u32.wrap ((y : Int) * 2 ^ (8 * 0))) := by
  congr 1
  rw [IntKind.wrap_u32]
  simp

theorem Keeps.grown {S : List Nat} {w w1 w2 : World} {row : Option Nat} (h : Keeps S w w1) (hg : w1.grownBy w2 row) (hrow : ∀ k, row = some k → k < w.heap.size → k ∈ S) : Keeps S w w2 :=
  ⟨hg.os.trans h.os, hg.tape.trans h.tape, hg.output.trans h.output, Nat.le_trans h.size hg.size,
    fun k hk hS => (hg.block k (Nat.lt_of_lt_of_le hk h.size) (fun e => hS (hrow k e.symm hk))).trans (h.block k hk hS)⟩

set_option maxRecDepth 100000 in
set_option maxHeartbeats 2000000 in
theorem lOf_any (s : ByteArray) (w : World) (hn : s.size ≤ 1000) :
    Calls Tryz.prog 16 #[.string s] w fun e w' =>
      (∃ a n c M, e = .returned (.slice a n c) ∧ N32 w' a n c M ∧ val32 M = bval (bytesOf s) ∧ Bare M ∧ n ≤ (s.size + 3) / 4) ∧ Keeps [] w w' := by
  obtain ⟨i0, hi, hz0, hz1, hz2⟩ := info_parts info_u32
  have hu := und_lnum
  have HLT := Lib.hid (bytesOf_lt s)
  have HLEN := Lib.hid (bytesOf_len s)
  go_enter Tryz.func16, Tryz.ntmps16
  go_wp2
  go_loopw [3, 4] (fun v3 v4 wr => ∃ (t : Nat) (M : List Nat), v4 = .int .i64 ((s.size : Int) - 1 - (t : Int)) ∧ t ≤ s.size ∧ wr.ownsRow w.heap.size 62 1 v3 M.length (u32s M) ∧ M.length = (t + 3) / 4 ∧ Lt32 M ∧ val32 M = bval ((bytesOf s).drop (s.size - t)) ∧ (∀ x, M[t / 4]? = some x → x < 256 ^ (t % 4)) ∧ Keeps [] w wr) (fun _ v4 _ => (intOf v4 + 1).toNat)
  case atStart =>
    refine ⟨0, [], by go_num, by omega, World.ownsRow_nil _ _ _ _, rfl, fun x hx => by simp at hx, ?_, fun x hx => by simp at hx, Keeps.refl _ _⟩
    rw [List.drop_of_length_le (by rw [bytesOf_len]; omega)]; rfl
  case round =>
    obtain ⟨t, M, rfl, ht, hown, hlen, hl, hv, htop, hkp⟩ := hrel
    have HO := Lib.hid hown; have HV := Lib.hid hv; have HT := Lib.hid htop; have HL := Lib.hid hl; have HK := Lib.hid hkp; have HE := Lib.hid hlen
    clear hown hv htop hl hkp hlen
    by_cases hlt : t < s.size
    · have i1 : (0 : Int) ≤ (s.size : Int) - 1 - (t : Int) := by omega
      have i2 : (s.size : Int) - 1 - ((s.size : Int) - 1 - (t : Int)) = (t : Int) := by omega
      obtain ⟨q, hq⟩ : ∃ q, q = t / 4 := ⟨_, rfl⟩
      obtain ⟨r, hr⟩ : ∃ r, r = t % 4 := ⟨_, rfl⟩
      have HQ := Lib.hid hq; have HR := Lib.hid hr
      by_cases h4 : r = 0
      · have i3 : ((t : Int) % 4) = 0 := by omega
        have i5 : ((t : Int) % 4) = (r : Int) := by omega
        have i6 : ((t : Int) / 4) = (q : Int) := by omega
        clear hq hr
        go_wp2_with (at_builtin; refine wpList_append_own _ rfl _ _ 39 rfl w.heap.size 62 i0 (.int .u32 0) 1 4 hu hi hz0 hz1 hz2 rfl (by decide) _ _ _ rfl (HO.out.alloc _) ⟨wr.heap.size, 0, none⟩ 1 1 [.int .u32 0] rfl ?qc1 ?qc2 ?qc3 ?qc4 ?qc5 ?qc6 ?_)
        case qc1 => rfl
        case qc2 =>
          intro j u hj
          have hj0 : j = 0 := by
            rcases Nat.eq_zero_or_pos j with h | h
            · exact h
            · rw [List.getElem?_eq_none (by simp; omega)] at hj; simp at hj
          subst hj0
          simp at hj
          subst hj
          rw [Addr.add_lit, alloc_cell]; rfl
        case qc3 => intro u hu; simp at hu; subst hu; rfl
        case qc4 => have := HE.out; unfold maxLen; omega
        case qc5 => have := HE.out; omega
        case qc6 => have := HK.out.size; simp; omega
        intro v' w1 hown hgrow hnil
        have hown2 : w1.ownsRow w.heap.size 62 1 v' (M ++ [0]).length (u32s (M ++ [0])) := by simpa [u32s] using hown
        obtain ⟨M1, hM1⟩ : ∃ M1, M1 = M ++ [0] := ⟨_, rfl⟩
        rw [← hM1] at hown2
        have hlen1 : M1.length = q + 1 := by have := HE.out; have := HQ.out; have := HR.out; rw [hM1]; simp; omega
        have hl1 : Lt32 M1 := by
          intro y hy
          rw [hM1] at hy
          rcases List.mem_append.1 hy with h | h
          · exact HL.out y h
          · simp at h; subst h; decide
        have hv1 : val32 M1 = bval ((bytesOf s).drop (s.size - t)) := by rw [hM1, val32_snoc, Nat.mul_zero, Nat.add_zero]; exact HV.out
        have hx1 : M1[q]? = some 0 := by have := HE.out; have := HQ.out; have := HR.out; rw [hM1, List.getElem?_append_right (by omega), show q - M.length = 0 by omega]; rfl
        obtain ⟨x, hx, hxr⟩ : ∃ x, M1[q]? = some x ∧ x < 256 ^ r := ⟨0, hx1, Nat.pow_pos (by omega)⟩
        have hk1 : Keeps [] w w1 := (HK.out.alloc _).grown hgrow (fun k hk hlt => absurd (HO.out.lt k hk).1 (by omega))
        rcases hown2.2 with ⟨_, h0⟩ | ⟨g, cap, cur, rfl, hgB, _, hcap, hcapm, _, _⟩
        · omega
        have hcell := hown2.cellAt q (by omega)
        have hfz := hown2.frozenAt q
        have hcell' : w1.cell? ⟨g, q, none⟩ = some (.int .u32 (x : Int)) := by rw [hcell]; simp [u32s, hx]
        have i7 : (q : Int) < (M1.length : Int) := by omega
        have i7' : (q : Int) < (M.length : Int) + 1 := by have := HE.out; have := HQ.out; omega
        have i8 : (s.size : Int) - 1 - (t : Int) < (s.size : Int) := by omega
        have i9 : (0 : Int) ≤ (s.size : Int) - 1 - (t : Int) ∧ (s.size : Int) - 1 - (t : Int) < (s.size : Int) := ⟨i1, i8⟩
        clear hcell
        go_wp2_with fail
        refine wp_region_txt [0,0,0,0,1,0,0,0,0,0,0,0,0,0,0,2] (fun _ => True) (by kernel_rfl) (by kernel_rfl) trivial ?_
        simp only [withMarks]
        repeat (first
          | ((with_reducible refine txt_v (v := ?_) ?_ ?_); (any_goals ((with_reducible refine Yl.mk ?_ ?_); rfl; intro w hSw; (go_simp <;> (try go_bits) <;> (repeat (first | rw [if_pos (by omega)] | rw [if_neg (by omega)])) <;> with_reducible rfl))); try simp only [Act.put, List.setIfInBounds_toArray, List.set_cons_zero, List.set_cons_succ])
          | ((with_reducible refine txt_u ?_ ?_); rfl; try simp only [Act.put, List.setIfInBounds_toArray, List.set_cons_zero, List.set_cons_succ])
          | ((with_reducible refine txt_l (v := ?_) ?_ ?_); (any_goals ((with_reducible refine Reads.mk ?_ ?_); rfl; (go_simp <;> (try go_bits) <;> (repeat (first | rw [if_pos (by omega)] | rw [if_neg (by omega)])) <;> with_reducible rfl))); try simp only [Act.put, List.setIfInBounds_toArray, List.set_cons_zero, List.set_cons_succ])
          | ((with_reducible refine txt_e ?_ ?_); rfl; intro K hK; go_simp; (first | (refine hK _ _ trivial ?_) | ((first | fail); dsimp only; refine hK _ _ trivial ?_)); clear hK K; try simp only [Act.put, List.setIfInBounds_toArray, List.set_cons_zero, List.set_cons_succ]))
        refine txt_nil ?_
        obtain ⟨y, hy⟩ : ∃ y, y = (bytesOf s)[s.size - 1 - t]'(by rw [bytesOf_len]; omega) := ⟨_, rfl⟩
        have hyb : y < 256 := by rw [hy]; exact (HLT.out).get _ _
        have hys : (s[s.size - 1 - t]'(by omega)).toNat = y := by rw [bytesOf_get, hy]
        have hr4 : r < 4 := by rw [HR.out]; exact Nat.mod_lt _ (by omega)
        obtain ⟨z, hz, hz1, hz2, hz3⟩ := or_shift32 x y r hxr hyb hr4
        have fin := lof_step HQ.out HR.out hlen1 hl1 hv1 hx hz1 hz2 hz3 HLEN.out hlt hy.symm
        have hst := (hown2.stored q (.int .u32 (z : Int))).1
        have hks := hk1.setCell (p := ⟨g, q, none⟩) (fun h => absurd hgB (by show ¬ _ ≤ _; exact Nat.not_le.2 h)) (.int .u32 (z : Int))
        have hset : (u32s M1).set q (.int .u32 (z : Int)) = u32s (M1.set q z) := by simp [u32s, List.map_set]
        rw [hset] at hst
        have hst' : ((w1.setCell ⟨g, q, none⟩ (.int .u32 (z : Int))).drew).ownsRow w.heap.size 62 1 (.slice (some ⟨g, 0, none⟩) M1.length cap) (M1.set q z).length (u32s (M1.set q z)) := by
          rw [List.length_set]; exact hst.drew
        subst h4
        rw [← or_byte32] at hz
        go_wp2
        rw [← hy, hz]
        refine ⟨⟨t + 1, M1.set q z, by go_num, by omega, ?_, fin.1, fin.2.1, fin.2.2.1, fin.2.2.2, hks.drew⟩, by simp [intOf]; omega⟩
        have e : M.length + 1 = M1.length := by rw [hM1]; simp
        rw [e]; exact hst'
      · have i3 : ¬ ((t : Int) % 4) = 0 := by omega
        have i5 : ((t : Int) % 4) = (r : Int) := by omega
        have i6 : ((t : Int) / 4) = (q : Int) := by omega
        clear hq hr
        have hown2 := HO.out
        have hlen1 : M.length = q + 1 := by have := HE.out; have := HQ.out; have := HR.out; omega
        have hl1 : Lt32 M := HL.out
        have hv1 : val32 M = bval ((bytesOf s).drop (s.size - t)) := HV.out
        have hx1 : ∃ x, M[q]? = some x := ⟨_, List.getElem?_eq_getElem (by omega)⟩
        obtain ⟨x, hx⟩ := hx1
        have hxr : x < 256 ^ r := by rw [HR.out]; exact HT.out x (by rw [← HQ.out]; exact hx)
        have hk1 := HK.out
        obtain ⟨M1, hM1⟩ : ∃ M1, M1 = M := ⟨_, rfl⟩
        obtain ⟨w1, hw1⟩ : ∃ w1, w1 = wr := ⟨_, rfl⟩
        subst hM1 hw1
        rcases hown2.2 with ⟨_, h0⟩ | ⟨g, cap, cur, rfl, hgB, _, hcap, hcapm, _, _⟩
        · omega
        have hcell := hown2.cellAt q (by omega)
        have hfz := hown2.frozenAt q
        have hcell' : w1.cell? ⟨g, q, none⟩ = some (.int .u32 (x : Int)) := by rw [hcell]; simp [u32s, hx]
        have i7 : (q : Int) < (M1.length : Int) := by omega
        have i8 : (s.size : Int) - 1 - (t : Int) < (s.size : Int) := by omega
        have i9 : (0 : Int) ≤ (s.size : Int) - 1 - (t : Int) ∧ (s.size : Int) - 1 - (t : Int) < (s.size : Int) := ⟨i1, i8⟩
        clear hcell
        go_wp2_with fail
        refine wp_region_txt [0,0,0,0,1,0,0,0,0,0,0,0,0,0,0,2] (fun _ => True) (by kernel_rfl) (by kernel_rfl) trivial ?_
        simp only [withMarks]
        repeat (first
          | ((with_reducible refine txt_v (v := ?_) ?_ ?_); (any_goals ((with_reducible refine Yl.mk ?_ ?_); rfl; intro w hSw; (go_simp <;> (try go_bits) <;> (repeat (first | rw [if_pos (by omega)] | rw [if_neg (by omega)])) <;> with_reducible rfl))); try simp only [Act.put, List.setIfInBounds_toArray, List.set_cons_zero, List.set_cons_succ])
          | ((with_reducible refine txt_u ?_ ?_); rfl; try simp only [Act.put, List.setIfInBounds_toArray, List.set_cons_zero, List.set_cons_succ])
          | ((with_reducible refine txt_l (v := ?_) ?_ ?_); (any_goals ((with_reducible refine Reads.mk ?_ ?_); rfl; (go_simp <;> (try go_bits) <;> (repeat (first | rw [if_pos (by omega)] | rw [if_neg (by omega)])) <;> with_reducible rfl))); try simp only [Act.put, List.setIfInBounds_toArray, List.set_cons_zero, List.set_cons_succ])
          | ((with_reducible refine txt_e ?_ ?_); rfl; intro K hK; go_simp; (first | (refine hK _ _ trivial ?_) | ((first | fail); dsimp only; refine hK _ _ trivial ?_)); clear hK K; try simp only [Act.put, List.setIfInBounds_toArray, List.set_cons_zero, List.set_cons_succ]))
        refine txt_nil ?_
        obtain ⟨y, hy⟩ : ∃ y, y = (bytesOf s)[s.size - 1 - t]'(by rw [bytesOf_len]; omega) := ⟨_, rfl⟩
        have hyb : y < 256 := by rw [hy]; exact (HLT.out).get _ _
        have hys : (s[s.size - 1 - t]'(by omega)).toNat = y := by rw [bytesOf_get, hy]
        have hr4 : r < 4 := by rw [HR.out]; exact Nat.mod_lt _ (by omega)
        obtain ⟨z, hz, hz1, hz2, hz3⟩ := or_shift32 x y r hxr hyb hr4
        have fin := lof_step HQ.out HR.out hlen1 hl1 hv1 hx hz1 hz2 hz3 HLEN.out hlt hy.symm
        have hst := (hown2.stored q (.int .u32 (z : Int))).1
        have hks := hk1.setCell (p := ⟨g, q, none⟩) (fun h => absurd hgB (by show ¬ _ ≤ _; exact Nat.not_le.2 h)) (.int .u32 (z : Int))
        have hset : (u32s M1).set q (.int .u32 (z : Int)) = u32s (M1.set q z) := by simp [u32s, List.map_set]
        rw [hset] at hst
        have hst' : ((w1.setCell ⟨g, q, none⟩ (.int .u32 (z : Int))).drew).ownsRow w.heap.size 62 1 (.slice (some ⟨g, 0, none⟩) M1.length cap) (M1.set q z).length (u32s (M1.set q z)) := by
          rw [List.length_set]; exact hst.drew
        go_wp2
        rw [IntKind.wrap_u32] at hz
        have hyy : ((y : Int) % 4294967296) = (y : Int) := by omega
        rw [← hy, hyy, hz]
        rw [hlen1] at hst'
        refine ⟨⟨t + 1, M1.set q z, by go_num, by omega, hst', fin.1, fin.2.1, fin.2.2.1, fin.2.2.2, hks.drew⟩, by simp [intOf]; omega⟩
    · have i1 : ¬ (0 : Int) ≤ (s.size : Int) - 1 - (t : Int) := by omega
      have htn : t = s.size := by omega
      obtain ⟨a, c, hv3, hN⟩ := N32.of_own HO.out HL.out
      subst hv3
      go_wp2_with fail
      refine (lBare_any a _ c M _ hN (by have := HE.out; omega)).mono ?_
      rintro e w2 ⟨⟨n', c', M', rfl, hN2, hv2, hB, hn'⟩, rfl⟩
      have hfin : val32 M' = bval (bytesOf s) := by rw [hv2, HV.out, htn]; simp
      have hle : n' ≤ (s.size + 3) / 4 := by have := HE.out; omega
      go_wp2
      go_ret
      exact ⟨⟨a, n', c', M', rfl, hN2, hfin, hB, hle⟩, HK.out⟩

end Go.Proofs.YtnfjmngchapdnaaGreatDoor
