import Derived.Test.YtnfjmngchapdnaaGreatDoorMClone
import Derived.Test.YtnfjmngchapdnaaGreatDoorMLOf
/- Numbers of 32-bit words: LProduct. -/
namespace Go.Proofs.YtnfjmngchapdnaaGreatDoor
open Go.RowKit

theorem val32_put (L : List Nat) (k x z : Nat) (hk : L[k]? = some x) : val32 (L.set k z) + W32 ^ k * x = val32 L + W32 ^ k * z := by
  induction L generalizing k with
  | nil => simp at hk
  | cons y L ih =>
    cases k with
    | zero =>
      simp at hk
      subst hk
      simp only [List.set_cons_zero, val32, Nat.pow_zero, Nat.one_mul]
      omega
    | succ k =>
      simp only [List.getElem?_cons_succ] at hk
      have := ih k hk
      simp only [List.set_cons_succ, val32, Nat.pow_succ]
      rw [Nat.mul_comm (W32 ^ k) W32, Nat.mul_assoc, Nat.mul_assoc, Nat.add_assoc, ← Nat.mul_add, this, Nat.mul_add, Nat.add_assoc]
theorem val32_zeros (n : Nat) : val32 (List.replicate n 0) = 0 := by
  induction n with
  | zero => rfl
  | succ n ih => simp [List.replicate_succ, val32, ih]
theorem val32_take_succ (L : List Nat) (k : Nat) (h : k < L.length) : val32 (L.take (k + 1)) = val32 (L.take k) + W32 ^ k * L[k] := by
  rw [List.take_succ_eq_append_getElem h, val32_snoc, List.length_take, Nat.min_eq_left (by omega)]
/-- One step of a product's inner round. -/
theorem prod_step {V V0 V' i k c c' o x y n z T T' : Nat} (hV : V + W32 ^ (i + k) * c = V0 + W32 ^ i * (x * T)) (hput : V' + W32 ^ (i + k) * o = V + W32 ^ (i + k) * z) (hn : n = c + o + x * y) (hz : z = n % W32) (hc : c' = n / W32) (hT : T' = T + W32 ^ k * y) :
    V' + W32 ^ (i + (k + 1)) * c' = V0 + W32 ^ i * (x * T') := by
  have h1 : n = z + W32 * c' := by rw [hz, hc]; exact (Nat.mod_add_div n W32).symm
  have h2 : W32 ^ (i + (k + 1)) * c' = W32 ^ (i + k) * (W32 * c') := by rw [← Nat.add_assoc, Nat.pow_succ, Nat.mul_assoc]
  have h3 : W32 ^ i * (x * T') = W32 ^ i * (x * T) + W32 ^ (i + k) * (x * y) := by
    rw [hT, Nat.mul_add, Nat.mul_add, Nat.pow_add]
    congr 1
    rw [Nat.mul_assoc]
    congr 1
    rw [← Nat.mul_assoc, ← Nat.mul_assoc, Nat.mul_comm x]
  have h4 : W32 ^ (i + k) * n = W32 ^ (i + k) * z + W32 ^ (i + k) * (W32 * c') := by rw [← Nat.mul_add, ← h1]
  have h5 : W32 ^ (i + k) * n = W32 ^ (i + k) * c + W32 ^ (i + k) * o + W32 ^ (i + k) * (x * y) := by rw [hn, Nat.mul_add, Nat.mul_add]
  rw [h2, h3]
  omega
theorem u32s_set (L : List Nat) (k z : Nat) : (u32s L).set k (.int .u32 (z : Int)) = u32s (L.set k z) := by simp [u32s, List.map_set]
theorem Lt32.set {L : List Nat} (h : Lt32 L) {z : Nat} (hz : z < W32) (k : Nat) : Lt32 (L.set k z) := fun a ha => by
  rcases List.mem_or_eq_of_mem_set ha with h1 | h1
  · exact h a h1
  · rw [h1]; exact hz
theorem drop_set_eq {L M : List Nat} {i k z : Nat} (h : L.drop (i + k) = M.drop (i + k)) : (L.set (i + k) z).drop (i + (k + 1)) = M.drop (i + (k + 1)) := by
  rw [List.drop_set_of_lt (by omega), ← Nat.add_assoc, ← List.drop_drop, h, List.drop_drop]
theorem prod_range {c o x y : Nat} (hc : c < 4294967296) (ho : o < 4294967296) (hx : x < 4294967296) (hy : y < 4294967296) : x * y ≤ 18446744065119617025 ∧ c + o + x * y < 18446744073709551616 := by
  have h1 : x * y ≤ 4294967295 * 4294967295 := Nat.mul_le_mul (by omega) (by omega)
  omega

set_option maxRecDepth 100000 in
set_option maxHeartbeats 2000000 in
theorem lProduct_any (a a2 : Option Addr) (n c n2 c2 : Nat) (A B : List Nat) (w : World) (hA : N32 w a n c A) (hB : N32 w a2 n2 c2 B) (hn : n ≤ 200) (hn2 : n2 ≤ 200) :
    Calls Tryz.prog 33 #[.slice a n c, .slice a2 n2 c2] w fun e w' =>
      (∃ a' n' c' M, e = .returned (.slice a' n' c') ∧ N32 w' a' n' c' M ∧ val32 M = val32 A * val32 B ∧ Bare M ∧ n' ≤ n + n2 + 1) ∧ Keeps [] w w' := by
  obtain ⟨i0, hi, hz0, hz1, hz2⟩ := info_parts info_u32
  obtain ⟨wm, hmk, hown, hgr⟩ := run_make_full (P := Tryz.prog) w w.heap.size 39 62 i0 (.int .u32 0) 1 und_lnum hi hz0 hz1 .i64 .i64 (n + n2 + 1) (by rw [hz2]; omega) (by unfold maxLen; omega) (Nat.le_refl _)
  have hmk' : (Instr.makeSlice 39 (.int .i64 ((n : Int) + (n2 : Int) + 1)) (.int .i64 ((n : Int) + (n2 : Int) + 1))).run Tryz.prog w = .ok (.slice (some ⟨w.heap.size, 0, none⟩) (n + n2 + 1) (n + n2 + 1)) wm := by
    have e : ((n + n2 + 1 : Nat) : Int) = (n : Int) + (n2 : Int) + 1 := by omega
    rw [← e]; exact hmk
  have hown' : wm.ownsRow w.heap.size 62 1 (.slice (some ⟨w.heap.size, 0, none⟩) (n + n2 + 1) (n + n2 + 1)) (n + n2 + 1) (u32s (List.replicate (n + n2 + 1) 0)) := by
    have e : (madeCells (Value.int .u32 0).cells ((n + n2 + 1) * 1)).toList = u32s (List.replicate (n + n2 + 1) 0) := by
      rw [Nat.mul_one]
      show (madeCells #[Value.int .u32 0] (n + n2 + 1)).toList = _
      rw [toList_madeCells_one]; simp [u32s]
    rw [← e]; exact hown
  have hk0 : Keeps [] w wm := (Keeps.refl [] w).grown hgr (by simp)
  have HO0 := Lib.hid hown'; have HK0 := Lib.hid hk0; have HA := Lib.hid hA; have HB := Lib.hid hB
  clear hmk hown hgr hown' hk0 hi hz0 hz1 hz2
  obtain ⟨gA1, gA2, gA3, gA4⟩ := hA
  obtain ⟨gB1, gB2, gB3, gB4⟩ := hB
  have GA1 := Lib.hid gA1; have GB1 := Lib.hid gB1; have GA4 := Lib.hid gA4; have GB4 := Lib.hid gB4
  clear gA1 gB1 gA4 gB4
  go_enter Tryz.func33, Tryz.ntmps33
  go_wp2
  clear hmk'
  go_loopw [6] (fun ii wr => ∃ (i : Nat) (O : List Nat), ii = .int .i64 (i : Int) ∧ i ≤ n ∧ Hid (O.length = n + n2 + 1) ∧ Lt32 O ∧ Hid (wr.ownsRow w.heap.size 62 1 (.slice (some ⟨w.heap.size, 0, none⟩) (n + n2 + 1) (n + n2 + 1)) (n + n2 + 1) (u32s O)) ∧ Hid (val32 O = val32 (A.take i) * val32 B) ∧ Hid (O.drop (i + n2) = List.replicate (n + n2 + 1 - (i + n2)) 0) ∧ Hid (Keeps [] w wr)) (fun ii _ => n - (intOf ii).toNat)
  case atStart =>
    refine ⟨0, List.replicate (n + n2 + 1) 0, by go_num, by omega, Lib.hid (by simp), fun x hx => by have := (List.mem_replicate.1 hx).2; subst this; decide, HO0, Lib.hid (by rw [val32_zeros]; simp [val32]), Lib.hid (by rw [List.drop_replicate]), HK0⟩
  case round =>
    obtain ⟨i, O, rfl, hin, hOl, hOlt, hO, hV, hZ, hK⟩ := hrel
    by_cases hlt : i < n
    · have i1 : (i : Int) < (n : Int) := by omega
      obtain ⟨bA, oA, rfl, hbA, hcA⟩ := GA4.out (by intro e; have := GA1.out; subst e; simp at this; omega)
      have hiA : i < A.length := by have := GA1.out; omega
      obtain ⟨x, hx⟩ : ∃ x, x = A[i] := ⟨_, rfl⟩
      have hxl := gA3 A[i] (List.getElem_mem _)
      have cA0 := hcA i hiA
      rw [← hx] at cA0 hxl
      rw [W32_eq] at hxl
      have HX := Lib.hid hx
      have CA := Lib.hid cA0
      clear hx hcA cA0
      go_wp2
      go_loopw [7, 8] (fun cv kv wr => ∃ (cy k : Nat) (O' : List Nat), cv = .int .u64 (cy : Int) ∧ kv = .int .i64 (k : Int) ∧ k ≤ n2 + 1 ∧ cy < 4294967296 ∧ (k = n2 + 1 → cy = 0) ∧ Hid (O'.length = n + n2 + 1) ∧ Lt32 O' ∧ Hid (wr.ownsRow w.heap.size 62 1 (.slice (some ⟨w.heap.size, 0, none⟩) (n + n2 + 1) (n + n2 + 1)) (n + n2 + 1) (u32s O')) ∧ Hid (val32 O' + W32 ^ (i + k) * cy = val32 O + W32 ^ i * (x * val32 (B.take k))) ∧ Hid (O'.drop (i + k) = O.drop (i + k)) ∧ Hid (Keeps [] w wr)) (fun _ kv _ => n2 + 2 - (intOf kv).toNat)
      case atStart =>
        exact ⟨0, 0, O, by go_num, by go_num, by omega, by omega, fun _ => rfl, hOl, hOlt, hO, Lib.hid (by simp [val32]), Lib.hid rfl, hK⟩
      case round =>
        clear hK hO
        obtain ⟨cy, k, O', rfl, rfl, hk, hcy, hcyz, hOl', hOlt', hO', hV', hD', hK'⟩ := hrel
        by_cases hkn : k < n2
        · have i2 : (k : Int) < (n2 : Int) := by omega
          obtain ⟨bB, oB, rfl, hbB, hcB⟩ := GB4.out (by intro e; have := GB1.out; subst e; simp at this; omega)
          have hkB : k < B.length := by have := GB1.out; omega
          obtain ⟨y, hy⟩ : ∃ y, y = B[k] := ⟨_, rfl⟩
          have hyl := gB3 B[k] (List.getElem_mem _)
          have cB0 := hcB k hkB
          rw [← hy] at cB0 hyl
          rw [W32_eq] at hyl
          have HY := Lib.hid hy
          clear hy hcB
          have hik : i + k < O'.length := by have := hOl'.out; omega
          obtain ⟨o, ho⟩ : ∃ o, o = O'[i + k] := ⟨_, rfl⟩
          have hol := hOlt' O'[i + k] (List.getElem_mem _)
          have co := hO'.out.cellAt (i + k) (by omega)
          have fo := hO'.out.frozenAt (i + k)
          rw [show (u32s O')[i + k]? = some (.int .u32 (O'[i + k] : Int)) by simp [u32s, hik], ← ho] at co
          rw [← ho, W32_eq] at hol
          have HOO := Lib.hid ho
          clear ho
          have cB := Keeps.cell1 cB0 hK'.out hbB (by simp)
          have cA := Keeps.cell1 CA.out hK'.out hbA (by simp)
          clear cB0
          have hr := prod_range hcy hol hxl hyl
          obtain ⟨pp, hpp⟩ : ∃ pp, pp = x * y := ⟨_, rfl⟩
          rw [← hpp] at hr
          have hpi : (x : Int) * (y : Int) = (pp : Int) := by rw [hpp, Int.natCast_mul]
          have HPP := Lib.hid hpp
          clear hpp
          have hr1 := hr.1; have hr2 := hr.2
          clear hr
          have i3 : (i : Int) + (k : Int) < (n : Int) + (n2 : Int) + 1 := by omega
          have i4 : (0 : Int) ≤ (i : Int) + (k : Int) := by omega
          go_wp2_with fail
          refine wp_region_txt [0,0,0,0,1,0,0,0,0,1,0,0,0,0] (fun _ => True) (by kernel_rfl) (by kernel_rfl) trivial ?_
          simp only [withMarks]
          repeat (first
            | ((with_reducible refine txt_v (v := ?_) ?_ ?_); (any_goals ((with_reducible refine Yl.mk ?_ ?_); rfl; intro w hSw; (go_simp <;> (try go_bits) <;> (repeat (first | rw [if_pos (by omega)] | rw [if_neg (by omega)])) <;> with_reducible rfl))); try simp only [Act.put, List.setIfInBounds_toArray, List.set_cons_zero, List.set_cons_succ])
            | ((with_reducible refine txt_u ?_ ?_); rfl; try simp only [Act.put, List.setIfInBounds_toArray, List.set_cons_zero, List.set_cons_succ])
            | ((with_reducible refine txt_l (v := ?_) ?_ ?_); (any_goals ((with_reducible refine Reads.mk ?_ ?_); rfl; (go_simp <;> (try go_bits) <;> (repeat (first | rw [if_pos (by omega)] | rw [if_neg (by omega)])) <;> with_reducible rfl))); try simp only [Act.put, List.setIfInBounds_toArray, List.set_cons_zero, List.set_cons_succ])
            | ((with_reducible refine txt_e ?_ ?_); rfl; intro K hK; go_simp; (first | (refine hK _ _ trivial ?_) | ((first | fail); dsimp only; refine hK _ _ trivial ?_)); clear hK K; try simp only [Act.put, List.setIfInBounds_toArray, List.set_cons_zero, List.set_cons_succ]))
          refine txt_nil ?_
          go_wp2
          obtain ⟨nn, hnn⟩ : ∃ nn, nn = cy + o + pp := ⟨_, rfl⟩
          obtain ⟨z, hz⟩ : ∃ z, z = nn % W32 := ⟨_, rfl⟩
          obtain ⟨c', hc'⟩ : ∃ c', c' = nn / W32 := ⟨_, rfl⟩
          have hW := W32_eq
          have hzI : ((cy : Int) + (o : Int) + (pp : Int)) % 4294967296 = (z : Int) := by rw [hz, hnn, hW]; omega
          have hcI : ((cy : Int) + (o : Int) + (pp : Int)) / 4294967296 = (c' : Int) := by rw [hc', hnn, hW]; omega
          have hcl : c' < 4294967296 := by rw [hc', hnn, hW]; omega
          have hzl : z < W32 := by rw [hz]; exact Nat.mod_lt _ (by decide)
          rw [hzI, hcI]
          have hst := (hO'.out.stored (i + k) (.int .u32 (z : Int))).1
          rw [u32s_set] at hst
          have hput := val32_put O' (i + k) o z (by rw [HOO.out]; exact List.getElem?_eq_getElem hik)
          have hT : val32 (B.take (k + 1)) = val32 (B.take k) + W32 ^ k * y := by rw [HY.out]; exact val32_take_succ B k hkB
          have hval := prod_step hV'.out hput (by rw [hnn, HPP.out]) hz hc' hT
          refine ⟨⟨c', k + 1, O'.set (i + k) z, rfl, by go_num, by omega, hcl, fun h => absurd h (by omega), Lib.hid (by rw [List.length_set]; exact hOl'.out), Lt32.set hOlt' hzl _, Lib.hid hst.drew, Lib.hid hval, Lib.hid (drop_set_eq hD'.out), Lib.hid ((hK'.out.setCell (fun h => absurd h (Nat.lt_irrefl _)) _).drew)⟩, by simp [intOf]; omega⟩
        · have hkn1 : ¬ (k : Int) < (n2 : Int) := by omega
          by_cases hc0 : cy = 0
          · subst hc0
            go_wp2
            have hT : val32 (B.take k) = val32 B := by rw [List.take_of_length_le (by have := GB1.out; omega)]
            have hv := hV'.out
            rw [Nat.mul_zero, Nat.add_zero, hT, hV.out] at hv
            refine ⟨⟨i + 1, O', by go_num, by omega, hOl', hOlt', hO', Lib.hid ?_, Lib.hid ?_, hK'⟩, by simp [intOf]; omega⟩
            · rw [hv, val32_take_succ A i hiA, ← HX.out, Nat.add_mul, Nat.mul_assoc]
            · have h1 := congrArg (fun l => l.drop (i + 1 + n2 - (i + k))) hD'.out
              have h2 := congrArg (fun l => l.drop 1) hZ.out
              simp only [List.drop_drop, List.drop_replicate] at h1 h2
              rw [show i + k + (i + 1 + n2 - (i + k)) = i + 1 + n2 by omega] at h1
              rw [h1, show i + 1 + n2 = i + n2 + 1 by omega, h2]
              congr 1
          · have hk2 : k = n2 := by omega
            have i2 : (0 : Int) < (cy : Int) := by omega
            have hik : i + k < O'.length := by have := hOl'.out; omega
            have hoz : O'[i + k]? = some 0 := by
              have h1 := congrArg (fun l => l[0]?) hD'.out
              have h2 := congrArg (fun l => l[0]?) hZ.out
              rw [hk2] at h1 ⊢
              simp only [List.getElem?_drop, Nat.add_zero] at h1 h2
              rw [h1, h2, List.getElem?_replicate, if_pos (by omega)]
            have co := hO'.out.cellAt (i + k) (by omega)
            have fo := hO'.out.frozenAt (i + k)
            rw [show (u32s O')[i + k]? = some (.int .u32 0) by simp [u32s, hoz]] at co
            have HOZ := Lib.hid hoz; have HK2 := Lib.hid hk2
            clear hoz hk2
            have i3 : (i : Int) + (k : Int) < (n : Int) + (n2 : Int) + 1 := by omega
            have i4 : (0 : Int) ≤ (i : Int) + (k : Int) := by omega
            go_wp2
            have hW := W32_eq
            have hcI : (cy : Int) / 4294967296 = ((0 : Nat) : Int) := by omega
            rw [hcI]
            have hst := (hO'.out.stored (i + k) (.int .u32 (cy : Int))).1
            rw [u32s_set] at hst
            have hput := val32_put O' (i + k) 0 cy HOZ.out
            have hT : val32 (B.take (k + 1)) = val32 (B.take k) + W32 ^ k * 0 := by
              rw [Nat.mul_zero, Nat.add_zero, List.take_of_length_le (by have := GB1.out; have := HK2.out; omega), List.take_of_length_le (by have := GB1.out; have := HK2.out; omega)]
              rfl
            have hval := prod_step (n := cy) (c' := 0) hV'.out hput (by omega) (by rw [hW]; omega) (by rw [hW]; omega) hT
            refine ⟨⟨0, k + 1, O'.set (i + k) cy, rfl, by go_num, by have := HK2.out; omega, by omega, fun _ => rfl, Lib.hid (by rw [List.length_set]; exact hOl'.out), Lt32.set hOlt' (by rw [hW]; exact hcy) _, Lib.hid hst, Lib.hid hval, Lib.hid (drop_set_eq hD'.out), Lib.hid (hK'.out.setCell (fun h => absurd h (Nat.lt_irrefl _)) _)⟩, by simp [intOf]; omega⟩
    · have hin' : i = n := by omega
      have i1 : ¬ (i : Int) < (n : Int) := by omega
      obtain ⟨a', c', hv3, hN⟩ := N32.of_own hO.out hOlt
      cases hv3
      have HI := Lib.hid hin'
      clear hin'
      go_wp2_with fail
      refine (lBare_any _ _ _ O _ hN (by omega)).mono ?_
      rintro e w2 ⟨⟨n', c', M', rfl, hN2, hv2, hB2, hn'⟩, rfl⟩
      have hfin : val32 M' = val32 A * val32 B := by rw [hv2, hV.out, HI.out, List.take_of_length_le (by have := GA1.out; omega)]
      go_wp2
      go_ret
      exact ⟨⟨_, n', c', M', rfl, hN2, hfin, hB2, hn'⟩, hK.out⟩

end Go.Proofs.YtnfjmngchapdnaaGreatDoor

/- spec.LRest where the other number is greater, or is of one word. -/
namespace Go.Proofs.YtnfjmngchapdnaaGreatDoor
open Go.RowKit

/-- A number that was returned: x. -/
def RetNum (e : Ending) (w' : World) (k x : Nat) : Prop := ∃ a n c M, e = .returned (.slice a n c) ∧ N32 w' a n c M ∧ val32 M = x ∧ Bare M ∧ n ≤ k

set_option maxRecDepth 100000 in
set_option maxHeartbeats 4000000 in
theorem lRest_less (a a2 : Option Addr) (n c n2 c2 : Nat) (A B : List Nat) (w : World) (hA : N32 w a n c A) (hB : N32 w a2 n2 c2 B) (hn : n ≤ 400) (hn2 : n2 ≤ 400) (hlt : val32 A < val32 B) :
    Calls Tryz.prog 32 #[.slice a n c, .slice a2 n2 c2] w fun e w' => RetNum e w' n (val32 A % val32 B) ∧ Keeps [] w w' := by
  go_enter Tryz.func32, Tryz.ntmps32
  go_wp2_with fail
  refine (lBare_any a n c A _ hA (by omega)).mono ?_
  rintro e w1 ⟨⟨k, c', M, rfl, hM, hMv, hMb, hk⟩, rfl⟩
  go_wp2_with fail
  refine (lBare_any a2 n2 c2 B _ hB (by omega)).mono ?_
  rintro e w1 ⟨⟨k2, c2', N, rfl, hN, hNv, hNb, hk2⟩, rfl⟩
  have HMV := Lib.hid hMv; have HNV := Lib.hid hNv
  clear hMv hNv hA hB
  by_cases h0 : k2 = 0
  · have : N = [] := List.length_eq_zero_iff.1 (by rw [hN.1, h0])
    have h1 := HNV.out
    rw [this] at h1
    simp [val32] at h1
    omega
  · have i0 : ¬ (k2 : Int) = 0 := by omega
    go_wp2_with fail
    refine (lOrder_any a a2 k c' k2 c2' M N _ hM hN (by omega) (by omega)).mono ?_
    rintro e w2 ⟨⟨o, rfl, ho⟩, hk1⟩
    have ho1 : o = -1 := by
      rcases ho with ⟨_, h⟩ | ⟨h, _⟩ | ⟨h, _⟩
      · exact h
      · rw [HMV.out, HNV.out] at h; omega
      · rw [HMV.out, HNV.out] at h; omega
    subst ho1
    clear ho
    go_wp2
    go_ret
    exact ⟨⟨a, k, c', M, rfl, hM.kept hk1, by rw [HMV.out, Nat.mod_eq_of_lt hlt], hMb, hk⟩, hk1⟩

theorem drop_val32 (M : List Nat) (i : Nat) (h : i < M.length) : val32 (M.drop i) = M[i] + W32 * val32 (M.drop (i + 1)) := by
  rw [List.drop_eq_getElem_cons h]; rfl
theorem shl_or64 (r x : Nat) (hr : r < 4294967296) (hx : x < 4294967296) : Go.bits .or .u64 ((r : Int) * 4294967296) (x : Int) = ((r * 4294967296 + x : Nat) : Int) := by
  have h := or_u64 x r 32 (by omega) (by rw [BB_eq]; omega)
  have e : ((2 ^ 32 * r : Nat) : Int) = (r : Int) * 4294967296 := by omega
  have e2 : 2 ^ 32 * r + x = r * 4294967296 + x := by omega
  rw [e, e2] at h
  exact h

set_option maxRecDepth 100000 in
set_option maxHeartbeats 4000000 in
theorem lRest_one (a a2 : Option Addr) (n c n2 c2 : Nat) (A B : List Nat) (w : World) (hA : N32 w a n c A) (hB : N32 w a2 n2 c2 B) (hn : n ≤ 400) (hn2 : n2 ≤ 400) (hge : val32 B ≤ val32 A) (hB0 : 0 < val32 B) (hB1 : val32 B < 4294967296) :
    Calls Tryz.prog 32 #[.slice a n c, .slice a2 n2 c2] w fun e w' => RetNum e w' 1 (val32 A % val32 B) ∧ Keeps [] w w' := by
  go_enter Tryz.func32, Tryz.ntmps32
  go_wp2_with fail
  refine (lBare_any a n c A _ hA (by omega)).mono ?_
  rintro e w1 ⟨⟨k, c', M, rfl, hM, hMv, hMb, hk⟩, rfl⟩
  go_wp2_with fail
  refine (lBare_any a2 n2 c2 B _ hB (by omega)).mono ?_
  rintro e w1 ⟨⟨k2, c2', N, rfl, hN, hNv, hNb, hk2⟩, rfl⟩
  have hk1 : k2 = 1 := by
    rcases Nat.lt_trichotomy k2 1 with h | h | h
    · have : N = [] := List.length_eq_zero_iff.1 (by rw [hN.1]; omega)
      rw [this] at hNv
      simp [val32] at hNv
      omega
    · exact h
    · obtain ⟨j, hj⟩ : ∃ j, N.length = j + 1 := ⟨N.length - 1, by have := hN.1; omega⟩
      have h1 := val32_bare_lt hNb j hj
      have h2 : W32 ^ 1 ≤ W32 ^ j := Nat.pow_le_pow_right (by decide) (by have := hN.1; omega)
      rw [Nat.pow_one] at h2
      have h3 := W32_eq
      omega
  subst hk1
  obtain ⟨y, hy⟩ : ∃ y, N = [y] := List.length_eq_one_iff.1 hN.1
  subst hy
  have hyv : val32 B = y := by rw [← hNv]; simp [val32]
  have HMV := Lib.hid hMv; have HYV := Lib.hid hyv
  rw [hyv] at hge hB0 hB1
  have hord := lOrder_any a a2 k c' 1 c2' M [y] w hM hN (by omega) (by omega)
  rw [hMv, show val32 [y] = y by simp [val32]] at hord
  have HORD := Lib.hid hord
  clear hMv hNv hA hB hyv hord
  go_wp2_with fail
  refine HORD.out.mono ?_
  rintro e w2 ⟨⟨o, rfl, ho⟩, hk1⟩
  have ho1 : o = 0 ∨ o = 1 := by
    rcases ho with ⟨h, _⟩ | ⟨_, h⟩ | ⟨_, h⟩
    · omega
    · exact .inl h
    · exact .inr h
  have ho2 : ¬ o < 0 := by omega
  clear ho ho1
  obtain ⟨f1, f2, f3, f4⟩ := hN
  obtain ⟨b2, o2, rfl, hb2, hc2⟩ := f4 (by simp)
  have cy0 := hc2 0 (by simp)
  simp only [List.getElem_cons_zero, Nat.add_zero] at cy0
  have CY0 := Lib.hid cy0
  obtain ⟨g1, g2, g3, g4⟩ := hM
  have G1 := Lib.hid g1; have G4 := Lib.hid g4; have HK := Lib.hid hk1
  clear f1 f4 hc2 cy0 g1 g4 hk1
  go_wp2
  go_loopw [5, 6] (fun rv iv wr => ∃ r j : Nat, rv = .int .u64 (r : Int) ∧ iv = .int .i64 ((j : Int) - 1) ∧ j ≤ k ∧ r < y ∧ Hid (r = val32 (M.drop j) % y) ∧ Hid (Keeps [] w wr)) (fun _ iv _ => (intOf iv + 1).toNat)
  case atStart => exact ⟨0, k, by go_num, by go_num, Nat.le_refl _, hB0, Lib.hid (by rw [List.drop_of_length_le (by have := G1.out; omega)]; simp [val32]), HK⟩
  case round =>
    obtain ⟨r, j, rfl, rfl, hj, hr, hrv, hkp⟩ := hrel
    cases j with
    | zero =>
      have i0 : ¬ (0 : Int) ≤ ((0 : Nat) : Int) - 1 := by omega
      have hkt : Keeps [] wr (wr.alloc (.cells #[.int .u32 (r : Int)] 62)) := (Keeps.refl _ _).alloc _
      have hNr : N32 (wr.alloc (.cells #[.int .u32 (r : Int)] 62)) (some ⟨wr.heap.size, 0, none⟩) 1 1 [r] := by
        refine ⟨rfl, Nat.le_refl _, fun z hz => by simp at hz; rw [hz, W32_eq]; omega, fun _ => ⟨_, _, rfl, by simp, fun i hi => ?_⟩⟩
        have : i = 0 := by simp at hi; omega
        subst this
        rw [Nat.add_zero, alloc_cell]; rfl
      have HNR := Lib.hid hNr; have HKT := Lib.hid (hkp.out.trans1 hkt)
      clear hkt hNr
      go_wp2_with fail
      refine (lBare_any _ 1 1 [r] _ HNR.out (by omega)).mono ?_
      rintro e w3 ⟨⟨n', c3, M', rfl, hN3, hv3, hB3, hn3⟩, rfl⟩
      have hfin : val32 M' = val32 A % val32 B := by
        rw [hv3, HYV.out, ← HMV.out]
        have := hrv.out
        simpa [val32] using this
      have HF := Lib.hid hfin
      clear hfin hv3
      go_wp2
      go_ret
      exact ⟨⟨_, n', c3, M', rfl, hN3, HF.out, hB3, hn3⟩, HKT.out⟩
    | succ j =>
      obtain ⟨b, o1, rfl, hb, hc⟩ := G4.out (by intro e; have := G1.out; subst e; simp at this; omega)
      have hjM : j < M.length := by have := G1.out; omega
      have cx := Keeps.cell1 (hc j hjM) hkp.out hb (by simp)
      have cy := Keeps.cell1 CY0.out hkp.out hb2 (by simp)
      have hxl := g3 M[j] (List.getElem_mem _)
      obtain ⟨x, hx⟩ : ∃ x, x = M[j] := ⟨_, rfl⟩
      rw [← hx] at cx hxl
      rw [W32_eq] at hxl
      have HX := Lib.hid hx
      clear hx hc
      have hor := shl_or64 r x (by omega) hxl
      obtain ⟨t, ht⟩ : ∃ t, t = r * 4294967296 + x := ⟨_, rfl⟩
      rw [← ht] at hor
      have HT := Lib.hid ht
      have htl : (t : Int) < 18446744073709551616 := by omega
      clear ht
      have i2 : (j : Int) + 1 - 1 = (j : Int) := by omega
      have i3 : (0 : Int) ≤ (j : Int) := by omega
      have i4 : (j : Int) < (k : Int) := by omega
      have i5 : ¬ (y : Int) = 0 := by omega
      go_wp2_with fail
      refine wp_region_txt [0,0,0,0,0,1,0,0,0,0,1,0,0,0] (fun _ => True) (by kernel_rfl) (by kernel_rfl) trivial ?_
      simp only [withMarks]
      repeat (first
        | ((with_reducible refine txt_v (v := ?_) ?_ ?_); (any_goals ((with_reducible refine Yl.mk ?_ ?_); rfl; intro w hSw; (go_simp <;> (try go_bits) <;> (repeat (first | rw [if_pos (by omega)] | rw [if_neg (by omega)])) <;> with_reducible rfl))); try simp only [Act.put, List.setIfInBounds_toArray, List.set_cons_zero, List.set_cons_succ])
        | ((with_reducible refine txt_u ?_ ?_); rfl; try simp only [Act.put, List.setIfInBounds_toArray, List.set_cons_zero, List.set_cons_succ])
        | ((with_reducible refine txt_l (v := ?_) ?_ ?_); (any_goals ((with_reducible refine Reads.mk ?_ ?_); rfl; (go_simp <;> (try go_bits) <;> (repeat (first | rw [if_pos (by omega)] | rw [if_neg (by omega)])) <;> with_reducible rfl))); try simp only [Act.put, List.setIfInBounds_toArray, List.set_cons_zero, List.set_cons_succ])
        | ((with_reducible refine txt_e ?_ ?_); rfl; intro K hK; go_simp; (first | (refine hK _ _ trivial ?_) | ((first | fail); dsimp only; refine hK _ _ trivial ?_)); clear hK K; try simp only [Act.put, List.setIfInBounds_toArray, List.set_cons_zero, List.set_cons_succ]))
      refine txt_nil ?_
      go_wp2
      refine ⟨⟨t % y, j, by rw [Int.natCast_emod], by go_num, by omega, Nat.mod_lt _ hB0, Lib.hid ?_, Lib.hid hkp.out.drew⟩, by simp [intOf]⟩
      rw [drop_val32 M j hjM, ← HX.out, HT.out, hrv.out, W32_eq, Nat.add_comm x, Nat.add_mod, Nat.mul_comm 4294967296, Nat.add_mod (val32 (M.drop (j + 1)) * 4294967296), Nat.mul_mod, Nat.mod_mod, ← Nat.mul_mod]

end Go.Proofs.YtnfjmngchapdnaaGreatDoor
