/- bigmod: SubOne, Nat, BitLen, Size. -/
import Derived.Test.YtnfjmngchapdnaaMod
namespace Go.Proofs.Ytnfjmngchapdnaa
open Go.RowKit

theorem NatV.set0 {w : World} {p lb n c : Nat} (h : NatV w p lb n c 0) (hn : 0 < n) (y : Nat) (hy : y < BB) : NatV (w.setCell ⟨lb, 0, none⟩ (.int .u64 (y : Int))) p lb n c y := by
  have hne := h.ne
  obtain ⟨hh, L, J, h1, h2, h3, h4, h5⟩ := h
  have hL : L = List.replicate n 0 := val_inj h4 (Lt.replicate n) (by simpa using h2) (by rw [h5, val_replicate])
  refine ⟨hh.other (a := ⟨lb, 0, none⟩) hne _, L.set 0 y, J, ?_, by simpa using h2, by simpa using h3, h4.set _ _ hy, ?_⟩
  · have := h1.set 0 y
    rw [List.set_append_left _ _ (by omega)] at this; exact this
  · have e := val_set L 0 y (by omega)
    have e2 : L[0]'(by omega) = 0 := by simp [hL]
    rw [e2, h5] at e
    simpa using e
theorem NatV.free0 {w : World} {p lb n c v : Nat} (h : NatV w p lb n c v) (i : Nat) : w.frozen? ⟨lb, i, none⟩ = false := by
  obtain ⟨_, L, J, h1, _⟩ := h; exact h1.free i
theorem NatV.cell0 {w : World} {p lb n c v : Nat} (h : NatV w p lb n c v) (hn : 0 < n) : ∃ x : Nat, w.cell? ⟨lb, 0, none⟩ = some (.int .u64 (x : Int)) ∧ x = v % BB := by
  obtain ⟨_, L, J, h1, h2, h3, h4, h5⟩ := h
  refine ⟨_, by simpa using h1.cell 0 (by simp; omega), ?_⟩
  rw [List.getElem_append_left (by omega), ← h5]
  cases L with
  | nil => simp at h2; omega
  | cons x L => simp only [val, List.getElem_cons_zero, Nat.add_mul_mod_self_left]; exact (Nat.mod_eq_of_lt h4.head).symm
theorem ModB.npos {w : World} {pm pn ln n m m0 : Nat} {odd : Bool} {rv : Value} (h : ModB w pm pn ln n m odd m0 rv) (hm : 0 < m) : 0 < n := by
  rcases Nat.eq_zero_or_pos n with h0 | h0
  · subst h0; have := h.nat.lt; simp at this; omega
  · exact h0

set_option maxRecDepth 100000 in
set_option maxHeartbeats 1000000 in
theorem nat_SubOne (p lb n c v pm pn ln m m0 : Nat) (odd : Bool) (rv : Value) (w : World) (hx : NatV w p lb n c v) (hm : ModB w pm pn ln n m odd m0 rv) (hl : ln ≠ lb) (hm1 : 0 < m) (hv : 0 < v) :
    Calls Try.prog 53 #[.pointer (some ⟨p, 0, none⟩), .pointer (some ⟨pm, 0, none⟩)] w fun e w' =>
      e = .returned (.pointer (some ⟨p, 0, none⟩)) ∧ NatV w' p lb n c (v - 1) ∧ Keeps [lb] w w' := by
  have hn0 := hm.npos hm1
  go_enter Try.func53, Try.ntmps53
  go_wp2_with fail
  refine (newNat_any _).mono ?_
  rintro e w1 ⟨pt, lt, rfl, ht, hpt, hlt, hk1⟩
  have o1 := hx.old hpt; have o2 := hx.old hlt; have o3 := hm.old hpt; have o4 := hm.old hlt
  have hm1' := hm.kept hk1
  go_wp2_with fail
  refine (nat_ExpandFor pt lt 0 0 pm pn ln n m m0 odd rv _ ht hm1' (by omega) (by omega)).mono ?_
  rintro e w2 ⟨rfl, ht2, hk2⟩
  have hx2 := (hx.kept hk1).keeps hk2 (by simp [o1.1, o2.1]) (by simp [o1.2, o2.2])
  have hm2 := hm1'.keeps hk2 (by simp [o3.1, o4.1]) (by simp [o3.2.1, o4.2.1]) (by simp [o3.2.2, o4.2.2])
  have c1 := ht2.hdr.cell
  have f1 := ht2.free0 0
  obtain ⟨x0, c0, _⟩ := ht2.cell0 hn0
  have ht3 := ht2.set0 hn0 1 (by unfold BB; omega)
  have hk3 : Keeps [lt] w2 (w2.setCell ⟨lt, 0, none⟩ (.int .u64 ((1 : Nat) : Int))) := (Keeps.refl _ _).setCell (by simp) _
  have hx3 := hx2.keeps hk3 (by simp [o2.1]) (by simp [o2.2])
  have hm3 := hm2.keeps hk3 (by simp [o4.1]) (by simp [o4.2.1]) (by simp [o4.2.2])
  have i0 : (0 : Int) < (n : Int) := by omega
  go_wp2_with fail
  refine (nat_Sub p lb pt lt n c 32 v 1 pm pn ln m m0 odd rv _ hx3 ht3 hm3 hl (by omega)).mono ?_
  rintro e w4 ⟨rfl, v', h1, h2, hx4, hk4⟩
  have e1 : v' = v - 1 := by have := h1 (by omega); omega
  subst e1
  have hkk : Keeps [lb] w w4 := by
    have a1 : Keeps [lb] w w1 := hk1.mono (by simp)
    have a2 : Keeps [lb] w w2 := a1.trans hk2 (by intro x hx hlt'; simp at hx; rcases hx with rfl | rfl <;> omega)
    have a3 := a2.trans hk3 (by intro x hx hlt'; simp at hx; subst hx; omega)
    exact a3.trans1 hk4
  clear h1 h2
  go_wp2
  go_ret
  exact ⟨rfl, hx4, hkk⟩

set_option maxRecDepth 100000 in
set_option maxHeartbeats 1000000 in
theorem mod_Nat (pm pn ln n m m0 : Nat) (odd : Bool) (rv : Value) (w : World) (hm : ModB w pm pn ln n m odd m0 rv) :
    Calls Try.prog 34 #[.pointer (some ⟨pm, 0, none⟩)] w fun e w' =>
      ∃ p lb : Nat, e = .returned (.pointer (some ⟨p, 0, none⟩)) ∧ NatV w' p lb n 32 m ∧ w.heap.size ≤ p ∧ w.heap.size ≤ lb ∧ Keeps [] w w' := by
  have hn32 := hm.nat.le
  go_enter Try.func34, Try.ntmps34
  go_wp2_with fail
  refine (newNat_any _).mono ?_
  rintro e w1 ⟨pt, lt, rfl, ht, hpt, hlt, hk1⟩
  have o3 := hm.old hpt; have o4 := hm.old hlt
  have hm1 := hm.kept hk1
  have c0 := hm1.hdr.c0
  go_wp2_with fail
  refine (nat_set pt lt pn ln 0 n 32 32 0 m _ ht hm1.nat hn32 (by omega) o3.2.1 o4.2.1 o3.2.2 o4.2.2).mono ?_
  rintro e w2 ⟨rfl, ht2, hk2⟩
  have hkk : Keeps [] w w2 := hk1.trans hk2 (by intro x hx hlt'; simp at hx; rcases hx with rfl | rfl <;> omega)
  go_wp2
  go_ret
  exact ⟨pt, lt, rfl, ht2, hpt, hlt, hkk⟩

set_option maxHeartbeats 1000000 in
theorem mod_BitLen (pm pn ln n m m0 : Nat) (odd : Bool) (rv : Value) (w : World) (hm : ModB w pm pn ln n m odd m0 rv) :
    Calls Try.prog 49 #[.pointer (some ⟨pm, 0, none⟩)] w fun e w' =>
      e = .returned (.int .i64 (blen m : Int)) ∧ w = w' := by
  have hn32 := hm.nat.le
  have c0 := hm.hdr.c0
  go_enter Try.func49, Try.ntmps49
  go_wp2_with fail
  refine (nat_BitLen pn ln n 32 m _ hm.nat (by omega)).mono ?_
  rintro e w1 ⟨rfl, rfl⟩
  go_wp2
  go_ret
  exact ⟨rfl, rfl⟩

theorem blen_le_n {n m : Nat} (h : m < BB ^ n) : blen m ≤ 64 * n := blen_le_of_lt (by rw [← BB_pow]; exact h)

set_option maxHeartbeats 1000000 in
theorem mod_Size (pm pn ln n m m0 : Nat) (odd : Bool) (rv : Value) (w : World) (hm : ModB w pm pn ln n m odd m0 rv) :
    Calls Try.prog 44 #[.pointer (some ⟨pm, 0, none⟩)] w fun e w' =>
      e = .returned (.int .i64 (((blen m + 7) / 8 : Nat) : Int)) ∧ w = w' := by
  have hn32 := hm.nat.le
  have hb := blen_le_n hm.nat.lt
  go_enter Try.func44, Try.ntmps44
  go_wp2_with fail
  refine (mod_BitLen pm pn ln n m m0 odd rv _ hm).mono ?_
  rintro e w1 ⟨rfl, rfl⟩
  go_wp2
  go_ret
  exact ⟨ret_int (by omega), rfl⟩

end Go.Proofs.Ytnfjmngchapdnaa
