import Derived.Test.YtnfjmngchapdnaaGreatDoorMCmp2
import Derived.Outline
/- bigmod: NewNat, reset, expand, set, trim. -/
namespace Go.Proofs.YtnfjmngchapdnaaGreatDoor
open Go.RowKit

theorem Row.new (w : World) (L : List Nat) : Row (w.alloc (.cells (u64s L).toArray 84)) w.heap.size L := by
  unfold Row
  show (w.heap.push _)[w.heap.size]? = _
  rw [Array.getElem?_push, if_pos rfl]
theorem Hdr.new (w : World) (lb n c : Nat) : Hdr (w.alloc (.cells #[.slice (some ⟨lb, 0, none⟩) n c] 112)) w.heap.size lb n c := by
  unfold Hdr
  show (w.heap.push _)[w.heap.size]? = _
  rw [Array.getElem?_push, if_pos rfl]
theorem Hdr.drew {w : World} {p lb n c : Nat} (h : Hdr w p lb n c) : Hdr w.drew p lb n c := h
theorem NatV.drew {w : World} {p lb n c v : Nat} (h : NatV w p lb n c v) : NatV w.drew p lb n c v := ⟨h.hdr, h.row⟩

set_option maxRecDepth 100000 in
set_option maxHeartbeats 1000000 in
theorem newNat_any (w : World) : Calls Tryz.prog 51 #[] w fun e w' =>
    ∃ p lb : Nat, e = .returned (.pointer (some ⟨p, 0, none⟩)) ∧ NatV w' p lb 0 32 0 ∧ w.heap.size ≤ p ∧ w.heap.size ≤ lb ∧ Keeps [] w w' := by
  obtain ⟨w1, hm, hr, hk, hs⟩ := run_make_words w 0 32 (by omega) (by omega)
  have hm' : ((Instr.makeSlice 110 (.int .i64 0) (.int .i64 32)).run Tryz.prog w) = .ok (.slice (some ⟨w.heap.size, 0, none⟩) 0 32) w1 := hm
  clear hm
  have Hs := Lib.hid hs
  clear hs
  go_enter Tryz.func51, Tryz.ntmps51
  go_wp2
  go_ret
  refine ⟨w1.heap.size, w.heap.size, rfl, ⟨Hdr.new w1 _ _ _, [], List.replicate 32 0, hr.alloc _, rfl, by simp, Lt.nil, rfl⟩, hk.size, Nat.le_refl _, hk.alloc _⟩

theorem reset_rows (L J : List Nat) (n k c m : Nat) (hn : L.length = n) (hc : L.length + J.length = c) (hk : k ≤ c) (hm : m = max n k) :
    ∃ J', (L ++ J).take 0 ++ (List.replicate m 0 ++ (L ++ J).drop (0 + m)) = List.replicate k 0 ++ J' ∧ k + J'.length = c := by
  refine ⟨List.replicate (m - k) 0 ++ (L ++ J).drop m, ?_, by simp; omega⟩
  have e : List.replicate m 0 = List.replicate k 0 ++ List.replicate (m - k) 0 := by rw [List.replicate_append_replicate, show k + (m - k) = m by omega]
  rw [e]
  simp only [List.take_zero, List.nil_append, Nat.zero_add, List.append_assoc]

set_option maxRecDepth 100000 in
set_option maxHeartbeats 1000000 in
theorem nat_reset (p lb n c v k : Nat) (w : World) (hx : NatV w p lb n c v) (hk : k ≤ c) (hc : c ≤ 1000) :
    Calls Tryz.prog 83 #[.pointer (some ⟨p, 0, none⟩), .int .i64 (k : Int)] w fun e w' =>
      e = .returned (.pointer (some ⟨p, 0, none⟩)) ∧ NatV w' p lb k c 0 ∧ Keeps [p, lb] w w' := by
  have h1 := hx.hdr.cell
  have g1 := hx.le
  have hne' := hx.ne
  obtain ⟨hh, L, J, hL1, hL2, hL3, hL4, hL5⟩ := hx
  have HH := Lib.hid hh
  obtain ⟨m, hm⟩ : ∃ m, m = max n k := ⟨_, rfl⟩
  obtain ⟨J', hJ, hJ'⟩ := reset_rows L J n k c m hL2 hL3 hk hm
  obtain ⟨w1, hcl, hr1, hk1⟩ := run_clear_row hL1.drew 0 m c (by simp; omega) (by omega)
  rw [hJ] at hr1
  have c1 := (hh.drew.keeps hk1 (by simpa using hne')).cell
  have f1 := (hh.drew.keeps hk1 (by simpa using hne')).free
  have hmc : m ≤ c := by omega
  have h2 : n ≤ m := by omega
  have h3 : k ≤ m := by omega
  have hfin : NatV (w1.setCell ⟨p, 0, none⟩ (.slice (some ⟨lb, 0, none⟩) k c)) p lb k c 0 :=
    ⟨(hh.drew.keeps hk1 (by simpa using hne')).set _ _ _, List.replicate k 0, J', hr1.other (a := ⟨p, 0, none⟩) (Ne.symm hne') _, by simp, by simpa using hJ', Lt.replicate k, val_replicate k⟩
  have hkp : Keeps [p, lb] w (w1.setCell ⟨p, 0, none⟩ (.slice (some ⟨lb, 0, none⟩) k c)) :=
    (((Keeps.refl _ w).drew.trans hk1 (by simp)).setCell (p := ⟨p, 0, none⟩) (by simp) _)
  have Hfin := Lib.hid hfin
  clear hfin hJ hJ' hL2 hL3 hL4 hL5 hr1 hh
  have hmx : (if k < n then (n : Int) else (k : Int)) = (m : Int) := by split <;> omega
  clear hm
  go_enter Tryz.func83, Tryz.ntmps83
  go_wp2
  refine wp_region_txt [0,0,0,1,0,0,0,0,1,0,0,0,2] (fun _ => True) (by kernel_rfl) (by kernel_rfl) trivial ?_
  simp only [withMarks]
  repeat (first
    | ((with_reducible refine txt_v (v := ?_) ?_ ?_); (any_goals ((with_reducible refine Yl.mk ?_ ?_); rfl; intro w hSw; (go_simp <;> (try go_bits) <;> (repeat (first | rw [if_pos (by omega)] | rw [if_neg (by omega)])) <;> with_reducible rfl))); try simp only [Act.put, List.setIfInBounds_toArray, List.set_cons_zero, List.set_cons_succ])
    | ((with_reducible refine txt_u ?_ ?_); rfl; try simp only [Act.put, List.setIfInBounds_toArray, List.set_cons_zero, List.set_cons_succ])
    | ((with_reducible refine txt_l (v := ?_) ?_ ?_); (any_goals ((with_reducible refine Reads.mk ?_ ?_); rfl; (go_simp <;> (try go_bits) <;> (repeat (first | rw [if_pos (by omega)] | rw [if_neg (by omega)])) <;> with_reducible rfl))); try simp only [Act.put, List.setIfInBounds_toArray, List.set_cons_zero, List.set_cons_succ])
    | ((with_reducible refine txt_e ?_ ?_); rfl; intro K hK; go_simp; (first | (refine hK _ _ trivial ?_) | ((first | fail); dsimp only; refine hK _ _ trivial ?_)); clear hK K; try simp only [Act.put, List.setIfInBounds_toArray, List.set_cons_zero, List.set_cons_succ]))
  refine txt_nil ?_
  go_wp2
  go_ret
  exact ⟨rfl, Hfin.out, hkp⟩

set_option maxRecDepth 100000 in
set_option maxHeartbeats 1000000 in
theorem nat_expand (p lb n c v k : Nat) (w : World) (hx : NatV w p lb n c v) (hnk : n ≤ k) (hk : k ≤ c) (hnc : n < c) (hc : c ≤ 1000) :
    Calls Tryz.prog 98 #[.pointer (some ⟨p, 0, none⟩), .int .i64 (k : Int)] w fun e w' =>
      e = .returned (.pointer (some ⟨p, 0, none⟩)) ∧ NatV w' p lb k c v ∧ Keeps [p, lb] w w' := by
  have h1 := hx.hdr.cell
  have hne' := hx.ne
  obtain ⟨hh, L, J, hL1, hL2, hL3, hL4, hL5⟩ := hx
  obtain ⟨w1, hcl, hr1, hk1⟩ := run_clear_row hL1.drew n (k - n) (c - n) (by simp; omega) (by omega)
  have c1 := (hh.drew.keeps hk1 (by simpa using hne')).cell
  have f1 := (hh.drew.keeps hk1 (by simpa using hne')).free
  have hrow : (L ++ J).take n ++ (List.replicate (k - n) 0 ++ (L ++ J).drop (n + (k - n))) = (L ++ List.replicate (k - n) 0) ++ J.drop (k - n) := by
    rw [List.take_left' hL2, List.drop_append, List.drop_of_length_le (by omega)]
    simp
    congr 1
    omega
  rw [hrow] at hr1
  have hfin : NatV (w1.setCell ⟨p, 0, none⟩ (.slice (some ⟨lb, 0, none⟩) k c)) p lb k c v :=
    ⟨(hh.drew.keeps hk1 (by simpa using hne')).set _ _ _, L ++ List.replicate (k - n) 0, J.drop (k - n), hr1.other (a := ⟨p, 0, none⟩) (Ne.symm hne') _, by simp; omega, by simp; omega, hL4.append (Lt.replicate _), by rw [val_append, val_replicate, hL5]; simp⟩
  have hkp : Keeps [p, lb] w (w1.setCell ⟨p, 0, none⟩ (.slice (some ⟨lb, 0, none⟩) k c)) :=
    (((Keeps.refl _ w).drew.trans hk1 (by simp)).setCell (p := ⟨p, 0, none⟩) (by simp) _)
  have Hfin := Lib.hid hfin
  clear hfin hrow hL2 hL3 hL4 hL5 hr1 hh
  have e1 : ¬ ((c : Nat) = n) := by omega
  have e2 : ¬ (n : Int) = (c : Int) := by omega
  go_enter Tryz.func98, Tryz.ntmps98
  go_wp2
  refine wp_region_txt [0,0,0,1,0,0,0,1,0,0,0,0] (fun _ => True) (by kernel_rfl) (by kernel_rfl) trivial ?_
  simp only [withMarks]
  repeat (first
    | ((with_reducible refine txt_v (v := ?_) ?_ ?_); (any_goals ((with_reducible refine Yl.mk ?_ ?_); rfl; intro w hSw; (go_simp <;> (try go_bits) <;> (repeat (first | rw [if_pos (by omega)] | rw [if_neg (by omega)])) <;> with_reducible rfl))); try simp only [Act.put, List.setIfInBounds_toArray, List.set_cons_zero, List.set_cons_succ])
    | ((with_reducible refine txt_u ?_ ?_); rfl; try simp only [Act.put, List.setIfInBounds_toArray, List.set_cons_zero, List.set_cons_succ])
    | ((with_reducible refine txt_l (v := ?_) ?_ ?_); (any_goals ((with_reducible refine Reads.mk ?_ ?_); rfl; (go_simp <;> (try go_bits) <;> (repeat (first | rw [if_pos (by omega)] | rw [if_neg (by omega)])) <;> with_reducible rfl))); try simp only [Act.put, List.setIfInBounds_toArray, List.set_cons_zero, List.set_cons_succ])
    | ((with_reducible refine txt_e ?_ ?_); rfl; intro K hK; go_simp; (first | (refine hK _ _ trivial ?_) | ((first | fail); dsimp only; refine hK _ _ trivial ?_)); clear hK K; try simp only [Act.put, List.setIfInBounds_toArray, List.set_cons_zero, List.set_cons_succ]))
  refine txt_nil ?_
  go_wp2
  go_ret
  exact ⟨rfl, Hfin.out, hkp⟩

set_option maxRecDepth 100000 in
set_option maxHeartbeats 1000000 in
theorem nat_set (p lb q lc n m c c' v u : Nat) (w : World) (hx : NatV w p lb n c v) (hy : NatV w q lc m c' u) (hm : m ≤ c) (hc : c ≤ 1000)
    (h1 : q ≠ p) (h2 : q ≠ lb) (h3 : lc ≠ p) (h4 : lc ≠ lb) :
    Calls Tryz.prog 90 #[.pointer (some ⟨p, 0, none⟩), .pointer (some ⟨q, 0, none⟩)] w fun e w' =>
      e = .returned (.pointer (some ⟨p, 0, none⟩)) ∧ NatV w' p lb m c u ∧ Keeps [p, lb] w w' := by
  have c1 := hy.hdr.cell
  have g1 := hy.le
  go_enter Tryz.func90, Tryz.ntmps90
  go_wp2_with fail
  refine (nat_reset p lb n c v m w hx hm hc).mono ?_
  rintro e w1 ⟨rfl, hx1, hk1⟩
  have hy1 := hy.keeps hk1 (by simp [h1, h2]) (by simp [h3, h4])
  clear c1 hx hy
  have c1 := hx1.hdr.cell
  have c2 := hy1.hdr.cell
  have hne' := hx1.ne
  obtain ⟨hh, L, J, hL1, hL2, hL3, hL4, hL5⟩ := hx1
  obtain ⟨_, M, I, hM1, hM2, hM3, hM4, hM5⟩ := hy1
  obtain ⟨w2, hcp, hr2, hk2⟩ := run_copy_words hL1.drew hM1.drew 0 0 m c m c' m (by simp [Nat.min_def]) (by simp; omega) (by simp; omega)
  have hfin : NatV w2 p lb m c u := by
    refine ⟨hh.drew.keeps hk2 (by simpa using hne'), M, J, ?_, hM2, by omega, hM4, hM5⟩
    have e1 : ((M ++ I).drop 0).take m = M := by rw [List.drop_zero, List.take_left' hM2]
    have e2 : (L ++ J).drop (0 + m) = J := by rw [Nat.zero_add, List.drop_left' hL2]
    rw [e1, e2, List.take_zero, List.nil_append] at hr2
    exact hr2
  have hkp : Keeps [p, lb] w w2 := hk1.drew.trans hk2 (by simp)
  have Hfin := Lib.hid hfin
  clear hfin hL2 hL3 hL4 hL5 hM2 hM3 hM4 hM5 hr2
  go_wp2
  refine wp_region_txt [0,0,0,1,0,0,0,1,2] (fun _ => True) (by kernel_rfl) (by kernel_rfl) trivial ?_
  simp only [withMarks]
  repeat (first
    | ((with_reducible refine txt_v (v := ?_) ?_ ?_); (any_goals ((with_reducible refine Yl.mk ?_ ?_); rfl; intro w hSw; (go_simp <;> (try go_bits) <;> (repeat (first | rw [if_pos (by omega)] | rw [if_neg (by omega)])) <;> with_reducible rfl))); try simp only [Act.put, List.setIfInBounds_toArray, List.set_cons_zero, List.set_cons_succ])
    | ((with_reducible refine txt_u ?_ ?_); rfl; try simp only [Act.put, List.setIfInBounds_toArray, List.set_cons_zero, List.set_cons_succ])
    | ((with_reducible refine txt_l (v := ?_) ?_ ?_); (any_goals ((with_reducible refine Reads.mk ?_ ?_); rfl; (go_simp <;> (try go_bits) <;> (repeat (first | rw [if_pos (by omega)] | rw [if_neg (by omega)])) <;> with_reducible rfl))); try simp only [Act.put, List.setIfInBounds_toArray, List.set_cons_zero, List.set_cons_succ])
    | ((with_reducible refine txt_e ?_ ?_); rfl; intro K hK; go_simp; (first | (refine hK _ _ trivial ?_) | ((first | fail); dsimp only; refine hK _ _ trivial ?_)); clear hK K; try simp only [Act.put, List.setIfInBounds_toArray, List.set_cons_zero, List.set_cons_succ]))
  refine txt_nil ?_
  go_wp2
  go_ret
  exact ⟨rfl, Hfin.out, hkp⟩

set_option maxRecDepth 100000 in
set_option maxHeartbeats 1000000 in
theorem nat_trim (p lb n c v : Nat) (w : World) (hx : NatV w p lb n c v) (hc : c ≤ 1000) :
    Calls Tryz.prog 84 #[.pointer (some ⟨p, 0, none⟩)] w fun e w' =>
      e = .returned (.pointer (some ⟨p, 0, none⟩)) ∧ ∃ n', n' ≤ n ∧ NatV w' p lb n' c v ∧ (n' = 0 ∨ BB ^ (n' - 1) ≤ v) ∧ Keeps [p] w w' := by
  have c1 := hx.hdr.cell
  have g1 := hx.le
  have hne' := hx.ne
  obtain ⟨hh, L, J, hL1, hL2, hL3, hL4, hL5⟩ := hx
  have KL2 := Lib.hid hL2; have KL3 := Lib.hid hL3; have KL5 := Lib.hid hL5
  clear hL2 hL3 hL5
  go_enter Tryz.func84, Tryz.ntmps84
  go_wp2
  clear c1
  go_loopw [3] (fun i wr => ∃ (k : Nat), k ≤ n ∧ i = .int .i64 ((k : Int) - 1) ∧ Hid (val (L.take k) = v) ∧ Hdr wr p lb k c ∧ Row wr lb (L ++ J) ∧ Keeps [p] w wr) (fun i _ => (intOf i + 1).toNat)
  case atStart => exact ⟨n, Nat.le_refl _, rfl, by show _ = _; rw [List.take_of_length_le (by have := KL2.out; omega), KL5.out], hh, hL1, Keeps.refl _ _⟩
  case round =>
    obtain ⟨k, hk, rfl, hv, hd, hr, hkp⟩ := hrel
    have hend : Hid ((k = 0 ∨ BB ^ (k - 1) ≤ v) → (∃ n', n' ≤ n ∧ NatV wr p lb n' c v ∧ (n' = 0 ∨ BB ^ (n' - 1) ≤ v) ∧ Keeps [p] w wr)) := fun ht =>
      ⟨k, hk, ⟨hd, L.take k, L.drop k ++ J, by rw [← List.append_assoc, List.take_append_drop]; exact hr, by have := KL2.out; simp; omega, by have := KL2.out; have := KL3.out; simp; omega, hL4.take k, hv.out⟩, ht, hkp⟩
    cases k with
    | zero =>
      have hc' : ¬ (0 : Int) ≤ ((0 : Nat) : Int) - 1 := by omega
      obtain ⟨n', e1, e2, e3, e4⟩ := hend.out (.inl rfl)
      have E2 := Lib.hid e2; have E3 := Lib.hid e3
      clear e2 e3 hend
      go_wp2
      go_ret
      exact ⟨rfl, n', e1, E2.out, E3.out, e4⟩
    | succ k =>
      have ek : (((k + 1 : Nat) : Int) - 1) = (k : Int) := by omega
      rw [ek]
      have hLn := KL2.out
      have c1 := hd.cell
      have c2 := hr.cell k (by simp; omega)
      have f1 := hd.free
      have b1 := hL4.get k (by omega)
      rw [List.getElem_append_left (by omega)] at c2
      obtain ⟨xk, hxk⟩ : ∃ x, L[k]'(by omega) = x := ⟨_, rfl⟩
      rw [hxk] at c2 b1
      have hs := val_take_succ L k (by omega)
      rw [hxk, hv.out] at hs
      have Hs := Lib.hid hs
      clear hxk hLn hs ek
      have hkc : k ≤ c := by omega
      by_cases h0 : xk = 0
      · subst h0
        have hz : ((0 : Int) == 0) = true := rfl
        go_wp2
        go_roundw
        case rel => exact ⟨k, by omega, rfl, by show _ = _; have := Hs.out; simp at this; exact this.symm, hd.set lb k c, hr.other (a := ⟨p, 0, none⟩) (Ne.symm hne') _, hkp.setCell (by simp) _⟩
        case measure => simp [intOf]
      · have hz : ((xk : Int) == 0) = false := by simp; omega
        have hz' : ((xk : Int) != 0) = true := by simp; omega
        obtain ⟨n', e1, e2, e3, e4⟩ := hend.out (.inr (by
          have := Hs.out
          have h6 : BB ^ k * 1 ≤ BB ^ k * xk := Nat.mul_le_mul_left _ (by omega)
          simp only [Nat.add_sub_cancel]
          omega))
        have E2 := Lib.hid e2; have E3 := Lib.hid e3
        clear e2 e3 hend
        go_wp2
        go_ret
        exact ⟨rfl, n', e1, E2.out, E3.out, e4⟩

end Go.Proofs.YtnfjmngchapdnaaGreatDoor

/- Rows of bytes, and numbers read out of them. -/
namespace Go.Proofs.YtnfjmngchapdnaaGreatDoor
open Go.RowKit

def LtB (L : List Nat) : Prop := ∀ x, x ∈ L → x < 256
theorem LtB.get {L : List Nat} (h : LtB L) (i : Nat) (hi : i < L.length) : L[i] < 256 := h _ (List.getElem_mem hi)
/-- The greatest byte first. -/
def bval (L : List Nat) : Nat := L.foldl (fun a x => a * 256 + x) 0
theorem foldl_bval (L : List Nat) : ∀ a, L.foldl (fun a x => a * 256 + x) a = a * 256 ^ L.length + bval L := by
  induction L with
  | nil => intro a; simp [bval]
  | cons x L ih =>
    intro a
    simp only [List.foldl_cons, bval, List.length_cons]
    rw [ih (a * 256 + x), ih (0 * 256 + x)]
    simp only [Nat.add_mul, Nat.pow_succ, Nat.zero_mul, Nat.zero_add]
    rw [Nat.mul_assoc a 256, Nat.mul_comm 256 (256 ^ L.length)]
    omega
theorem bval_append (L M : List Nat) : bval (L ++ M) = bval L * 256 ^ M.length + bval M := by
  unfold bval
  rw [List.foldl_append, foldl_bval]
  rfl
theorem bval_lt {L : List Nat} (h : LtB L) : bval L < 256 ^ L.length := by
  induction L with
  | nil => simp [bval]
  | cons x L ih =>
    have h1 := ih (fun y hy => h y (List.mem_cons_of_mem _ hy))
    have h2 := h x (List.mem_cons_self ..)
    rw [show x :: L = [x] ++ L from rfl, bval_append, List.length_append, Nat.pow_add]
    have h3 : bval [x] = x := by simp [bval]
    have h4 : (x + 1) * 256 ^ L.length ≤ 256 * 256 ^ L.length := Nat.mul_le_mul_right _ h2
    rw [h3]
    simp only [List.length_cons, List.length_nil, Nat.zero_add, Nat.pow_one]
    rw [Nat.add_mul] at h4
    omega

/-- The bytes L stand from o on in block b. -/
def BAt (w : World) (b o : Nat) (L : List Nat) : Prop := ∀ i (h : i < L.length), w.cell? ⟨b, o + i, none⟩ = some (.int .u8 (L[i] : Int))
theorem BAt.keeps {S : List Nat} {w w' : World} {b o : Nat} {L : List Nat} (h : BAt w b o L) (hb : b < w.heap.size) (hk : Keeps S w w') (hS : b ∉ S) : BAt w' b o L := by
  intro i hi
  rw [← h i hi]
  exact World.cell?_of_block (w := w) (hk.block b hb hS)
theorem BAt.drop {w : World} {b o : Nat} {L : List Nat} (h : BAt w b o L) (k : Nat) : BAt w b (o + k) (L.drop k) := by
  intro i hi
  have := h (k + i) (by simp at hi; omega)
  rw [List.getElem_drop, Nat.add_assoc]
  exact this
theorem BAt.take {w : World} {b o : Nat} {L : List Nat} (h : BAt w b o L) (k : Nat) : BAt w b o (L.take k) := by
  intro i hi
  have := h i (by simp at hi; omega)
  rw [List.getElem_take]
  exact this

theorem or_u32 (a b k : Nat) (ha : a < 2 ^ k) (h : 2 ^ k * b + a < 4294967296) : Go.bits .or .u32 (a : Int) ((2 ^ k * b : Nat) : Int) = ((2 ^ k * b + a : Nat) : Int) := by
  have h1 : (BitVec.ofInt 32 (a : Int)).toNat = a := by
    rw [BitVec.ofInt_natCast, BitVec.toNat_ofNat]; exact Nat.mod_eq_of_lt (by omega)
  have h2 : (BitVec.ofInt 32 ((2 ^ k * b : Nat) : Int)).toNat = 2 ^ k * b := by
    rw [BitVec.ofInt_natCast, BitVec.toNat_ofNat]; exact Nat.mod_eq_of_lt (by omega)
  show IntKind.u32.wrap ((BitVec.ofInt 32 (a : Int) ||| BitVec.ofInt 32 ((2 ^ k * b : Nat) : Int)).toNat : Int) = _
  rw [BitVec.toNat_or, h1, h2, Nat.or_comm, ← Nat.two_pow_add_eq_or_of_lt ha, IntKind.wrap_u32]
  omega
theorem be32_eq (x0 x1 x2 x3 : Nat) (b0 : x0 < 256) (b1 : x1 < 256) (b2 : x2 < 256) (b3 : x3 < 256) :
    Go.bits .or .u32 (Go.bits .or .u32 (Go.bits .or .u32 (x3 : Int) ((x2 : Int) * 256)) ((x1 : Int) * 65536)) ((x0 : Int) * 16777216) = ((bval [x0, x1, x2, x3] : Nat) : Int) := by
  have e1 := or_u32 x3 x2 8 (by omega) (by omega)
  have e2 := or_u32 (2 ^ 8 * x2 + x3) x1 16 (by omega) (by omega)
  have e3 := or_u32 (2 ^ 16 * x1 + (2 ^ 8 * x2 + x3)) x0 24 (by omega) (by omega)
  rw [show ((x2 : Int) * 256) = ((2 ^ 8 * x2 : Nat) : Int) by omega, e1, show ((x1 : Int) * 65536) = ((2 ^ 16 * x1 : Nat) : Int) by omega, e2, show ((x0 : Int) * 16777216) = ((2 ^ 24 * x0 : Nat) : Int) by omega, e3]
  simp only [bval, List.foldl_cons, List.foldl_nil]
  omega
theorem or_u64 (a b k : Nat) (ha : a < 2 ^ k) (h : 2 ^ k * b + a < BB) : Go.bits .or .u64 ((2 ^ k * b : Nat) : Int) (a : Int) = ((2 ^ k * b + a : Nat) : Int) := by
  unfold BB at h
  rw [bits_or_u64_nat _ _ (by omega) (by omega), ← Nat.two_pow_add_eq_or_of_lt ha]

set_option maxRecDepth 100000 in
set_option maxHeartbeats 1000000 in
theorem beUint32_any (b o n c x0 x1 x2 x3 : Nat) (L : List Nat) (w : World) (hb : BAt w b o (x0 :: x1 :: x2 :: x3 :: L)) (hl : LtB (x0 :: x1 :: x2 :: x3 :: L)) (hn : 4 ≤ n) (hc : n ≤ 1000000) :
    Calls Tryz.prog 107 #[.slice (some ⟨b, o, none⟩) n c] w fun e w' =>
      e = .returned (.int .u32 ((bval [x0, x1, x2, x3] : Nat) : Int)) ∧ Keeps [] w w' := by
  have c0 := hb 0 (by simp)
  have c1 := hb 1 (by simp)
  have c2 := hb 2 (by simp)
  have c3 := hb 3 (by simp)
  simp only [List.getElem_cons_zero, List.getElem_cons_succ, Nat.add_zero] at c0 c1 c2 c3
  have b0 := hl x0 (by simp)
  have b1 := hl x1 (by simp)
  have b2 := hl x2 (by simp)
  have b3 := hl x3 (by simp)
  have g0 : 0 < n := by omega
  have g1 : 1 < n := by omega
  have g2 : 2 < n := by omega
  have g3 : 3 < n := by omega
  clear hb hl
  go_enter Tryz.func107, Tryz.ntmps107
  go_wp2
  refine wp_region_txt [0,0,1,0,0,0,1,0,0,0,0,0,1,0,0,0,0,0,1,0,0,0,0] (fun _ => True) (by kernel_rfl) (by kernel_rfl) trivial ?_
  simp only [withMarks]
  repeat (first
    | ((with_reducible refine txt_v (v := ?_) ?_ ?_); (any_goals ((with_reducible refine Yl.mk ?_ ?_); rfl; intro w hSw; (go_simp <;> (try go_bits) <;> (repeat (first | rw [if_pos (by omega)] | rw [if_neg (by omega)])) <;> with_reducible rfl))); try simp only [Act.put, List.setIfInBounds_toArray, List.set_cons_zero, List.set_cons_succ])
    | ((with_reducible refine txt_u ?_ ?_); rfl; try simp only [Act.put, List.setIfInBounds_toArray, List.set_cons_zero, List.set_cons_succ])
    | ((with_reducible refine txt_l (v := ?_) ?_ ?_); (any_goals ((with_reducible refine Reads.mk ?_ ?_); rfl; (go_simp <;> (try go_bits) <;> (repeat (first | rw [if_pos (by omega)] | rw [if_neg (by omega)])) <;> with_reducible rfl))); try simp only [Act.put, List.setIfInBounds_toArray, List.set_cons_zero, List.set_cons_succ])
    | ((with_reducible refine txt_e ?_ ?_); rfl; intro K hK; go_simp; (first | (refine hK _ _ trivial ?_) | ((first | fail); dsimp only; refine hK _ _ trivial ?_)); clear hK K; try simp only [Act.put, List.setIfInBounds_toArray, List.set_cons_zero, List.set_cons_succ]))
  refine txt_nil ?_
  go_wp2
  go_ret
  refine ⟨ret_int ?_, (Keeps.refl _ _).drew⟩
  exact be32_eq x0 x1 x2 x3 b0 b1 b2 b3

theorem four_of {L : List Nat} (h : 4 ≤ L.length) : ∃ x0 x1 x2 x3 M, L = x0 :: x1 :: x2 :: x3 :: M := by
  match L, h with
  | x0 :: x1 :: x2 :: x3 :: M, _ => exact ⟨x0, x1, x2, x3, M, rfl⟩

theorem beUint32_L (b o n c : Nat) (L : List Nat) (w : World) (hb : BAt w b o L) (hl : LtB L) (h4 : 4 ≤ L.length) (hn : 4 ≤ n) (hc : n ≤ 1000000) :
    Calls Tryz.prog 107 #[.slice (some ⟨b, o, none⟩) n c] w fun e w' =>
      e = .returned (.int .u32 ((bval (L.take 4) : Nat) : Int)) ∧ Keeps [] w w' := by
  obtain ⟨x0, x1, x2, x3, M, rfl⟩ := four_of h4
  exact beUint32_any b o n c x0 x1 x2 x3 M w hb hl hn hc

theorem BAt.kept {w w' : World} {b o : Nat} {L : List Nat} (h : BAt w b o L) (hb : b < w.heap.size) (hk : Keeps [] w w') : BAt w' b o L := h.keeps hb hk (by simp)
theorem BAt.drew {w : World} {b o : Nat} {L : List Nat} (h : BAt w b o L) : BAt w.drew b o L := h

set_option maxRecDepth 100000 in
set_option maxHeartbeats 1000000 in
theorem beUint64_any (b o n c : Nat) (L : List Nat) (w : World) (hb : BAt w b o L) (hbl : b < w.heap.size) (hl : LtB L) (h8 : 8 ≤ L.length) (hn : 8 ≤ n) (hnc : n ≤ c) (hc : n ≤ 1000000) :
    Calls Tryz.prog 106 #[.slice (some ⟨b, o, none⟩) n c] w fun e w' =>
      e = .returned (.int .u64 ((bval (L.take 8) : Nat) : Int)) ∧ Keeps [] w w' := by
  have c7 := hb 7 (by omega)
  have g7 : (7 : Int) < (n : Int) := by omega
  have g4 : (4 : Int) ≤ (n : Int) := by omega
  have e1 : ¬ ((c : Nat) = 4) := by omega
  have e2 : ¬ (4 : Int) = (c : Int) := by omega
  obtain ⟨H, hH⟩ : ∃ H, H = bval (L.take 4) := ⟨_, rfl⟩
  obtain ⟨T, hT⟩ : ∃ T, T = bval ((L.drop 4).take 4) := ⟨_, rfl⟩
  have hHl : H < 4294967296 := by
    have := bval_lt (L := L.take 4) (fun x hx => hl x (List.mem_of_mem_take hx))
    rw [← hH, List.length_take, Nat.min_eq_left (by omega)] at this; exact this
  have hTl : T < 4294967296 := by
    have := bval_lt (L := (L.drop 4).take 4) (fun x hx => hl x (List.mem_of_mem_drop (List.mem_of_mem_take hx)))
    rw [← hT, List.length_take, List.length_drop, Nat.min_eq_left (by omega)] at this; exact this
  have hfin : bval (L.take 8) = 2 ^ 32 * H + T := by
    have e : L.take 8 = L.take 4 ++ (L.drop 4).take 4 := by
      rw [show (8 : Nat) = 4 + 4 from rfl, List.take_add]
    rw [e, bval_append, ← hH, ← hT, List.length_take, List.length_drop, Nat.min_eq_left (by omega)]
    omega
  have hor := or_u64 T H 32 (by omega) (by unfold BB; omega)
  rw [show ((2 ^ 32 * H : Nat) : Int) = (H : Int) * 4294967296 by omega] at hor
  have K1 := fun w' (hk : Keeps [] w w') => beUint32_L b o n c L w' (hb.kept hbl hk) hl (by omega) (by omega) hc
  have K2 := fun w' (hk : Keeps [] w w') => beUint32_L b (o + 4) (n - 4) (c - 4) (L.drop 4) w' ((hb.drop 4).kept hbl hk) (fun x hx => hl x (List.mem_of_mem_drop hx)) (by simp; omega) (by omega) (by omega)
  rw [← hH] at K1
  rw [← hT] at K2
  have HK1 := Lib.hid K1; have HK2 := Lib.hid K2; have Hfin := Lib.hid hfin; have Hor := Lib.hid hor
  have hkw : Keeps [] w w.drew := (Keeps.refl _ _).drew
  clear hb hl hH hT K1 K2 hfin hor
  go_enter Tryz.func106, Tryz.ntmps106
  go_wp2
  refine wp_region_txt [0,2,0,0,0,0,2,0,0,0] (fun _ => True) (by kernel_rfl) (by kernel_rfl) trivial ?_
  simp only [withMarks]
  repeat (first
    | ((with_reducible refine txt_v (v := ?_) ?_ ?_); (any_goals ((with_reducible refine Yl.mk ?_ ?_); rfl; intro w hSw; (go_simp <;> (try go_bits) <;> (repeat (first | rw [if_pos (by omega)] | rw [if_neg (by omega)])) <;> with_reducible rfl))); try simp only [Act.put, List.setIfInBounds_toArray, List.set_cons_zero, List.set_cons_succ])
    | ((with_reducible refine txt_u ?_ ?_); rfl; try simp only [Act.put, List.setIfInBounds_toArray, List.set_cons_zero, List.set_cons_succ])
    | ((with_reducible refine txt_l (v := ?_) ?_ ?_); (any_goals ((with_reducible refine Reads.mk ?_ ?_); rfl; (go_simp <;> (try go_bits) <;> (repeat (first | rw [if_pos (by omega)] | rw [if_neg (by omega)])) <;> with_reducible rfl))); try simp only [Act.put, List.setIfInBounds_toArray, List.set_cons_zero, List.set_cons_succ])
    | ((with_reducible refine txt_e ?_ ?_); rfl; intro K hK; go_simp; (first | (refine hK _ _ trivial ?_) | ((first | (go_at_call 107; refine (HK2.out _ (hkw.trans1 hk1)).mono ?_; rintro e w2 ⟨rfl, hk2⟩) | (go_at_call 107; refine (HK1.out _ hkw).mono ?_; rintro e w1 ⟨rfl, hk1⟩)); dsimp only; refine hK _ _ trivial ?_)); clear hK K; try simp only [Act.put, List.setIfInBounds_toArray, List.set_cons_zero, List.set_cons_succ]))
  refine txt_nil ?_
  go_wp2
  go_ret
  exact ⟨ret_int (by rw [Hfin.out, ← Hor.out]), (hkw.trans1 hk1).trans1 hk2⟩

end Go.Proofs.YtnfjmngchapdnaaGreatDoor
