import Derived.Test.YtnfjmngchapdnaaMMem
import Derived.Test.YtnfjmngchapdnaaMTxt
import Derived.Outline
/- bigmod: choices, masks, equality of words. -/
namespace Go.Proofs.Ytnfjmngchapdnaa
open Go.RowKit

theorem ret_int {k : IntKind} {a b : Int} (h : a = b) : Ending.returned (.int k a) = .returned (.int k b) := by rw [h]

/-- c is the choice that says whether p. -/
structure Ch (p : Prop) (c : Nat) : Prop where
  le : c ≤ 1
  iff : c = 1 ↔ p
theorem Ch.yes {p : Prop} {c : Nat} (h : Ch p c) (hp : p) : c = 1 := h.iff.2 hp
theorem Ch.no {p : Prop} {c : Nat} (h : Ch p c) (hp : ¬ p) : c = 0 := by
  have := h.le; have h2 : c ≠ 1 := fun e => hp (h.iff.1 e); omega
theorem Ch.congr {p q : Prop} {c : Nat} (h : Ch p c) (e : p ↔ q) : Ch q c := ⟨h.le, h.iff.trans e⟩
theorem Ch.one : Ch True 1 := ⟨by omega, by simp⟩
theorem Ch.zero : Ch False 0 := ⟨by omega, by simp⟩
theorem Ch.case {p : Prop} {c : Nat} (h : Ch p c) : (c = 0 ∧ ¬ p) ∨ (c = 1 ∧ p) := by
  have := h.le
  by_cases hp : p
  · exact .inr ⟨h.yes hp, hp⟩
  · exact .inl ⟨h.no hp, hp⟩
theorem Ch.ite (p : Prop) [Decidable p] : Ch p (if p then 1 else 0) := by split <;> constructor <;> simp_all

theorem and_ch {p q : Prop} {c d : Nat} (hc : Ch p c) (hd : Ch q d) : ∃ r : Nat, Go.bits .and .u64 (c : Int) (d : Int) = (r : Int) ∧ Ch (p ∧ q) r := by
  rcases hc.case with ⟨rfl, h1⟩ | ⟨rfl, h1⟩ <;> rcases hd.case with ⟨rfl, h2⟩ | ⟨rfl, h2⟩
  · exact ⟨0, rfl, by omega, by simp [h1]⟩
  · exact ⟨0, rfl, by omega, by simp [h1]⟩
  · exact ⟨0, rfl, by omega, by simp [h2]⟩
  · exact ⟨1, rfl, by omega, by simp [h1, h2]⟩
theorem or_ch {p q : Prop} {c d : Nat} (hc : Ch p c) (hd : Ch q d) : ∃ r : Nat, Go.bits .or .u64 (c : Int) (d : Int) = (r : Int) ∧ Ch (p ∨ q) r := by
  rcases hc.case with ⟨rfl, h1⟩ | ⟨rfl, h1⟩ <;> rcases hd.case with ⟨rfl, h2⟩ | ⟨rfl, h2⟩
  · exact ⟨0, rfl, by omega, by simp [h1, h2]⟩
  · exact ⟨1, rfl, by omega, by simp [h2]⟩
  · exact ⟨1, rfl, by omega, by simp [h1]⟩
  · exact ⟨1, rfl, by omega, by simp [h1, h2]⟩
theorem not_ch {p : Prop} {c : Nat} (hc : Ch p c) : ∃ r : Nat, Go.bits .xor .u64 1 (c : Int) = (r : Int) ∧ Ch (¬ p) r := by
  rcases hc.case with ⟨rfl, h1⟩ | ⟨rfl, h1⟩
  · exact ⟨1, rfl, by omega, by simp [h1]⟩
  · exact ⟨0, rfl, by omega, by simp [h1]⟩

set_option maxHeartbeats 400000 in
theorem not_any {p : Prop} (c : Nat) (hc : Ch p c) (w : World) :
    Calls Try.prog 71 #[.int .u64 c] w fun e w' => ∃ r : Nat, e = .returned (.int .u64 (r : Int)) ∧ Ch (¬ p) r ∧ w = w' := by
  obtain ⟨r, hr, hR⟩ := not_ch hc
  go_enter Try.func71, Try.ntmps71
  go_wp2
  go_ret
  exact ⟨r, rfl, hR, rfl⟩

/-- The mask of a choice. -/
structure Mask (p : Prop) (m : Nat) : Prop where
  yes : p → m = 18446744073709551615
  no : ¬ p → m = 0
theorem mask_ch {p : Prop} {c : Nat} (hc : Ch p c) : ∃ m : Nat, -(c : Int) % 18446744073709551616 = (m : Int) ∧ Mask p m := by
  rcases hc.case with ⟨rfl, h1⟩ | ⟨rfl, h1⟩
  · exact ⟨0, by decide, fun h => absurd h h1, fun _ => rfl⟩
  · exact ⟨18446744073709551615, by decide, fun _ => rfl, fun h => absurd h1 h⟩

set_option maxHeartbeats 400000 in
theorem ctMask_any {p : Prop} (c : Nat) (hc : Ch p c) (w : World) :
    Calls Try.prog 89 #[.int .u64 c] w fun e w' => ∃ m : Nat, e = .returned (.int .u64 (m : Int)) ∧ Mask p m ∧ w = w' := by
  obtain ⟨m, hm, hM⟩ := mask_ch hc
  have Hm := Lib.hid hm
  clear hm hc
  go_enter Try.func89, Try.ntmps89
  go_wp2
  go_ret
  exact ⟨m, ret_int Hm.out, hM, rfl⟩

/-- x ^ (mask & (x ^ y)). -/
theorem pick_mask {p : Prop} {m : Nat} (hm : Mask p m) (x y : Nat) (hx : x < BB) (hy : y < BB) :
    ∃ z : Nat, Go.bits .xor .u64 (x : Int) (Go.bits .and .u64 (m : Int) (Go.bits .xor .u64 (x : Int) (y : Int))) = (z : Int) ∧ z < BB ∧ (p → z = y) ∧ (¬ p → z = x) := by
  have hbx : ∀ a b : Nat, a < BB → b < BB → Go.bits .xor .u64 (a : Int) (b : Int) = ((a ^^^ b : Nat) : Int) := by
    intro a b ha hb
    unfold BB at ha hb
    have hxx : a ^^^ b < 2 ^ 64 := Nat.xor_lt_two_pow (by omega) (by omega)
    have h1 : (BitVec.ofInt 64 (a : Int)).toNat = a := by
      rw [BitVec.ofInt_natCast, BitVec.toNat_ofNat]; exact Nat.mod_eq_of_lt (by omega)
    have h2 : (BitVec.ofInt 64 (b : Int)).toNat = b := by
      rw [BitVec.ofInt_natCast, BitVec.toNat_ofNat]; exact Nat.mod_eq_of_lt (by omega)
    show IntKind.u64.wrap ((BitVec.ofInt 64 (a : Int) ^^^ BitVec.ofInt 64 (b : Int)).toNat : Int) = _
    rw [BitVec.toNat_xor, h1, h2, IntKind.wrap_u64]
    omega
  have hlt : x ^^^ y < BB := by rw [BB_eq] at *; exact Nat.xor_lt_two_pow hx hy
  rw [hbx x y hx hy]
  by_cases hp : p
  · have := hm.yes hp; subst this
    rw [show ((18446744073709551615 : Nat) : Int) = ((18446744073709551615 : Nat) : Int) from rfl, bits_and_u64_nat _ _ (by omega) (by unfold BB at hlt; exact hlt)]
    have e : 18446744073709551615 &&& (x ^^^ y) = x ^^^ y := by
      rw [Nat.and_comm]
      have := Nat.and_two_pow_sub_one_eq_mod (x ^^^ y) 64
      rw [show (2 : Nat) ^ 64 - 1 = 18446744073709551615 from rfl] at this
      rw [this]; exact Nat.mod_eq_of_lt (by rw [← BB_eq]; exact hlt)
    rw [e, hbx x _ hx hlt]
    refine ⟨_, rfl, ?_, fun _ => ?_, fun h => absurd hp h⟩
    · rw [BB_eq] at *; exact Nat.xor_lt_two_pow hx hlt
    · rw [← Nat.xor_assoc, Nat.xor_self, Nat.zero_xor]
  · have := hm.no hp; subst this
    rw [bits_and_u64_nat _ _ (by omega) (by unfold BB at hlt; exact hlt), Nat.zero_and, hbx x 0 hx BB_pos, Nat.xor_zero]
    exact ⟨x, rfl, hx, fun h => absurd h hp, fun _ => rfl⟩

theorem subr_eq {x y s d s' d' : Nat} (hx : x < BB) (hy : y < BB) (h1 : SubR x y 0 s d) (h2 : SubR y x 0 s' d') : (d = 0 ∧ d' = 0) ↔ x = y := by
  have a := h1.eq; have b := h2.eq; have c := h1.lt; have e := h2.lt; have f := h1.le; have g := h2.le
  have d01 : d = 0 ∨ d = 1 := by omega
  have e01 : d' = 0 ∨ d' = 1 := by omega
  rcases d01 with rfl | rfl <;> rcases e01 with rfl | rfl <;> omega

set_option maxHeartbeats 1000000 in
theorem ctEq_any (x y : Nat) (hx : x < BB) (hy : y < BB) (w : World) :
    Calls Try.prog 76 #[.int .u64 x, .int .u64 y] w fun e w' => ∃ c : Nat, e = .returned (.int .u64 (c : Int)) ∧ Ch (x = y) c ∧ w = w' := by
  go_enter Try.func76, Try.ntmps76
  go_wp2_with fail
  refine (sub_any_z x y hx hy _).mono ?_
  rintro e w' ⟨s, d, rfl, hR, rfl⟩
  go_wp2_with fail
  refine (sub_any_z y x hy hx _).mono ?_
  rintro e w' ⟨s', d', rfl, hR', rfl⟩
  have hd : Ch (d ≠ 0) d := ⟨hR.le, by have := hR.le; omega⟩
  have hd' : Ch (d' ≠ 0) d' := ⟨hR'.le, by have := hR'.le; omega⟩
  obtain ⟨r, hr, hor⟩ := or_ch hd hd'
  go_wp2_with fail
  refine (not_any r hor _).mono ?_
  rintro e w' ⟨c, rfl, hc, rfl⟩
  go_wp2
  go_ret
  exact ⟨c, rfl, hc.congr (by rw [← subr_eq hx hy hR hR']; omega), rfl⟩

theorem ctEq_z (x : Nat) (hx : x < BB) (w : World) :
    Calls Try.prog 76 #[.int .u64 x, .int .u64 0] w fun e w' => ∃ c : Nat, e = .returned (.int .u64 (c : Int)) ∧ Ch (x = 0) c ∧ w = w' := ctEq_any x 0 hx BB_pos w
theorem ctEq_1 (x : Nat) (hx : x < BB) (w : World) :
    Calls Try.prog 76 #[.int .u64 x, .int .u64 1] w fun e w' => ∃ c : Nat, e = .returned (.int .u64 (c : Int)) ∧ Ch (x = 1) c ∧ w = w' := ctEq_any x 1 hx (by unfold BB; omega) w

end Go.Proofs.Ytnfjmngchapdnaa

/- bigmod: add, sub of two Nats in place. -/
namespace Go.Proofs.Ytnfjmngchapdnaa
open Go.RowKit

set_option maxRecDepth 100000 in
set_option maxHeartbeats 1000000 in
theorem nat_add (p lb q lc n c c' v u : Nat) (w : World) (hx : NatV w p lb n c v) (hy : NatV w q lc n c' u) (hn : n ≤ 1000) :
    Calls Try.prog 83 #[.pointer (some ⟨p, 0, none⟩), .pointer (some ⟨q, 0, none⟩)] w fun e w' =>
      ∃ v' d : Nat, e = .returned (.int .u64 (d : Int)) ∧ d ≤ 1 ∧ v' + d * BB ^ n = v + u ∧ NatV w' p lb n c v' ∧ Keeps [lb] w w' := by
  have h1 := hx.hdr.cell
  have h2 := hy.hdr.cell
  have g1 := hx.le
  have g2 := hy.le
  have hne := hx.ne
  obtain ⟨hh, L, J, hL1, hL2, hL3, hL4, hL5⟩ := hx
  obtain ⟨hh', M, I, hM1, hM2, hM3, hM4, hM5⟩ := hy
  have HH := Lib.hid hh
  have KL2 := Lib.hid hL2; have KL3 := Lib.hid hL3; have KL5 := Lib.hid hL5; have KM2 := Lib.hid hM2; have KM5 := Lib.hid hM5
  clear hh hh' hL2 hL3 hL5 hM2 hM3 hM5
  go_enter Try.func83, Try.ntmps83
  go_wp2
  clear h1 h2
  go_loopw [4, 8] (fun c i wr => ∃ (k d : Nat) (X Y : List Nat), k ≤ n ∧ i = .int .i64 k ∧ c = .int .u64 d ∧ d ≤ 1 ∧ Row wr lb (X ++ J) ∧ Row wr lc (Y ++ I) ∧ Hid (X.length = n) ∧ Hid (Y.length = n) ∧ Lt X ∧ Lt Y ∧ Hid (Y.drop k = M.drop k) ∧ Hid (val X + d * BB ^ k = v + val (M.take k)) ∧ Keeps [lb] w wr) (fun _ i _ => n - (intOf i).toNat)
  case atStart => exact ⟨0, 0, L, M, Nat.zero_le _, rfl, rfl, by omega, hL1, hM1, KL2, KM2, hL4, hM4, rfl, by show _ = _; simp [KL5.out, val], Keeps.refl _ _⟩
  case round =>
    obtain ⟨k, d, X, Y, hk, rfl, rfl, hd, hX, hY, hXn, hYn, hXl, hYl, hdr, hv, hkp⟩ := hrel
    by_cases hlt : k < n
    · have c1 := hX.cell k (by have := hXn.out; simp; omega)
      have c2 := hY.cell k (by have := hYn.out; simp; omega)
      have c3 := hX.free k
      have b1 := hXl.get k (by have := hXn.out; omega)
      have b2 := hYl.get k (by have := hYn.out; omega)
      rw [List.getElem_append_left (by have := hXn.out; omega)] at c1
      rw [List.getElem_append_left (by have := hYn.out; omega)] at c2
      obtain ⟨xk, hxk⟩ : ∃ x, X[k]'(by have := hXn.out; omega) = x := ⟨_, rfl⟩
      obtain ⟨yk, hyk⟩ : ∃ x, Y[k]'(by have := hYn.out; omega) = x := ⟨_, rfl⟩
      rw [hxk] at c1 b1
      rw [hyk] at c2 b2
      have Hxk := Lib.hid hxk; have Hyk := Lib.hid hyk; clear hxk hyk
      go_wp2_with fail
      refine wp_region_txt [0,0,0,0,0,1,0,0,0,1,0,2,0,0,0,0,2,0] (fun _ => True) (by kernel_rfl) (by kernel_rfl) trivial ?_
      simp only [withMarks]
      repeat (first
        | ((with_reducible refine txt_v (v := ?_) ?_ ?_); (any_goals ((with_reducible refine Yl.mk ?_ ?_); rfl; intro w hSw; (go_simp <;> (try go_bits) <;> (repeat (first | rw [if_pos (by omega)] | rw [if_neg (by omega)])) <;> with_reducible rfl))); try simp only [Act.put, List.setIfInBounds_toArray, List.set_cons_zero, List.set_cons_succ])
        | ((with_reducible refine txt_u ?_ ?_); rfl; try simp only [Act.put, List.setIfInBounds_toArray, List.set_cons_zero, List.set_cons_succ])
        | ((with_reducible refine txt_l (v := ?_) ?_ ?_); (any_goals ((with_reducible refine Reads.mk ?_ ?_); rfl; (go_simp <;> (try go_bits) <;> (repeat (first | rw [if_pos (by omega)] | rw [if_neg (by omega)])) <;> with_reducible rfl))); try simp only [Act.put, List.setIfInBounds_toArray, List.set_cons_zero, List.set_cons_succ])
        | ((with_reducible refine txt_e ?_ ?_); rfl; intro K hK; go_simp; (first | (refine hK _ _ trivial ?_) | ((first | (go_at_call 90; refine (add_any _ _ _ b1 b2 hd _).mono ?_; rintro e w' ⟨s, d', rfl, hR, rfl⟩)); dsimp only; refine hK _ _ trivial ?_)); clear hK K; try simp only [Act.put, List.setIfInBounds_toArray, List.set_cons_zero, List.set_cons_succ]))
      refine txt_nil ?_
      go_wp2
      go_roundw
      case measure => simp [intOf]; omega
      case rel =>
        have hXn' := hXn.out
        have hYn' := hYn.out
        refine ⟨k + 1, d', X.set k s, if lc = lb then X.set k s else Y, by omega, by go_num, rfl, hR.le, ?_, ?_, by show _ = _; simp [hXn'], ?_, hXl.set _ _ hR.lt, ?_, ?_, ?_, (hkp.setCell (by simp) _).drew⟩
        · have := (hX.set k s).drew; rw [List.set_append_left _ _ (by omega)] at this; exact this
        · split
          · rename_i e; subst e
            have e1 := hX.inj hY
            have e2 := List.append_inj e1 (by omega)
            have := (hY.set k s).drew; rw [List.set_append_left _ _ (by omega)] at this; rw [e2.1]; exact this
          · rename_i e; exact (hY.other (a := ⟨lb, k, none⟩) e _).drew
        · show _ = _; split <;> simp [hXn', hYn']
        · split
          · exact hXl.set _ _ hR.lt
          · exact hYl
        · show _ = _
          have h0 : Y.drop (k + 1) = M.drop (k + 1) := by
            have := congrArg (List.drop 1) hdr.out
            simpa [List.drop_drop, Nat.add_comm] using this
          split
          · rename_i e; subst e
            have e1 := hX.inj hY
            have e2 := List.append_inj e1 (by omega)
            rw [List.drop_set_of_lt (by omega), e2.1]; exact h0
          · exact h0
        · show _ = _
          have hMn := KM2.out
          have hy0 : M[k]'(by omega) = yk := by
            have := congrArg (fun l => l[0]?) hdr.out
            simp [List.getElem?_drop] at this
            rw [List.getElem?_eq_getElem (by omega), List.getElem?_eq_getElem (by omega)] at this
            simp at this
            rw [← this]; exact Hyk.out
          rw [val_take_succ M k (by omega)]
          refine add_round (L := X) (M := M) (d := d) (by omega) (by omega) hv.out ?_
          rw [Hxk.out, hy0]; exact hR
    · have : k = n := by omega
      subst this
      go_wp2
      go_ret
      have hMn := KM2.out
      refine ⟨val X, d, rfl, hd, ?_, ⟨HH.out.keeps hkp (by simpa using hne), X, J, hX, hXn.out, by have := hXn.out; have := KL3.out; have := KL2.out; omega, hXl, rfl⟩, hkp⟩
      have := hv.out
      rw [List.take_of_length_le (by omega), KM5.out] at this
      exact this

set_option maxRecDepth 100000 in
set_option maxHeartbeats 1000000 in
theorem nat_sub (p lb q lc n c c' v u : Nat) (w : World) (hx : NatV w p lb n c v) (hy : NatV w q lc n c' u) (hn : n ≤ 1000) :
    Calls Try.prog 82 #[.pointer (some ⟨p, 0, none⟩), .pointer (some ⟨q, 0, none⟩)] w fun e w' =>
      ∃ v' d : Nat, e = .returned (.int .u64 (d : Int)) ∧ d ≤ 1 ∧ v' + u = v + d * BB ^ n ∧ NatV w' p lb n c v' ∧ Keeps [lb] w w' := by
  have h1 := hx.hdr.cell
  have h2 := hy.hdr.cell
  have g1 := hx.le
  have g2 := hy.le
  have hne := hx.ne
  obtain ⟨hh, L, J, hL1, hL2, hL3, hL4, hL5⟩ := hx
  obtain ⟨hh', M, I, hM1, hM2, hM3, hM4, hM5⟩ := hy
  have HH := Lib.hid hh
  have KL2 := Lib.hid hL2; have KL3 := Lib.hid hL3; have KL5 := Lib.hid hL5; have KM2 := Lib.hid hM2; have KM5 := Lib.hid hM5
  clear hh hh' hL2 hL3 hL5 hM2 hM3 hM5
  go_enter Try.func82, Try.ntmps82
  go_wp2
  clear h1 h2
  go_loopw [4, 8] (fun c i wr => ∃ (k d : Nat) (X Y : List Nat), k ≤ n ∧ i = .int .i64 k ∧ c = .int .u64 d ∧ d ≤ 1 ∧ Row wr lb (X ++ J) ∧ Row wr lc (Y ++ I) ∧ Hid (X.length = n) ∧ Hid (Y.length = n) ∧ Lt X ∧ Lt Y ∧ Hid (Y.drop k = M.drop k) ∧ Hid (val X + val (M.take k) = v + d * BB ^ k) ∧ Keeps [lb] w wr) (fun _ i _ => n - (intOf i).toNat)
  case atStart => exact ⟨0, 0, L, M, Nat.zero_le _, rfl, rfl, by omega, hL1, hM1, KL2, KM2, hL4, hM4, rfl, by show _ = _; simp [KL5.out, val], Keeps.refl _ _⟩
  case round =>
    obtain ⟨k, d, X, Y, hk, rfl, rfl, hd, hX, hY, hXn, hYn, hXl, hYl, hdr, hv, hkp⟩ := hrel
    by_cases hlt : k < n
    · have c1 := hX.cell k (by have := hXn.out; simp; omega)
      have c2 := hY.cell k (by have := hYn.out; simp; omega)
      have c3 := hX.free k
      have b1 := hXl.get k (by have := hXn.out; omega)
      have b2 := hYl.get k (by have := hYn.out; omega)
      rw [List.getElem_append_left (by have := hXn.out; omega)] at c1
      rw [List.getElem_append_left (by have := hYn.out; omega)] at c2
      obtain ⟨xk, hxk⟩ : ∃ x, X[k]'(by have := hXn.out; omega) = x := ⟨_, rfl⟩
      obtain ⟨yk, hyk⟩ : ∃ x, Y[k]'(by have := hYn.out; omega) = x := ⟨_, rfl⟩
      rw [hxk] at c1 b1
      rw [hyk] at c2 b2
      have Hxk := Lib.hid hxk; have Hyk := Lib.hid hyk; clear hxk hyk
      go_wp2_with fail
      refine wp_region_txt [0,0,0,0,0,1,0,0,0,1,0,2,0,0,0,0,2,0] (fun _ => True) (by kernel_rfl) (by kernel_rfl) trivial ?_
      simp only [withMarks]
      repeat (first
        | ((with_reducible refine txt_v (v := ?_) ?_ ?_); (any_goals ((with_reducible refine Yl.mk ?_ ?_); rfl; intro w hSw; (go_simp <;> (try go_bits) <;> (repeat (first | rw [if_pos (by omega)] | rw [if_neg (by omega)])) <;> with_reducible rfl))); try simp only [Act.put, List.setIfInBounds_toArray, List.set_cons_zero, List.set_cons_succ])
        | ((with_reducible refine txt_u ?_ ?_); rfl; try simp only [Act.put, List.setIfInBounds_toArray, List.set_cons_zero, List.set_cons_succ])
        | ((with_reducible refine txt_l (v := ?_) ?_ ?_); (any_goals ((with_reducible refine Reads.mk ?_ ?_); rfl; (go_simp <;> (try go_bits) <;> (repeat (first | rw [if_pos (by omega)] | rw [if_neg (by omega)])) <;> with_reducible rfl))); try simp only [Act.put, List.setIfInBounds_toArray, List.set_cons_zero, List.set_cons_succ])
        | ((with_reducible refine txt_e ?_ ?_); rfl; intro K hK; go_simp; (first | (refine hK _ _ trivial ?_) | ((first | (go_at_call 70; refine (sub_any _ _ _ b1 b2 hd _).mono ?_; rintro e w' ⟨s, d', rfl, hR, rfl⟩)); dsimp only; refine hK _ _ trivial ?_)); clear hK K; try simp only [Act.put, List.setIfInBounds_toArray, List.set_cons_zero, List.set_cons_succ]))
      refine txt_nil ?_
      go_wp2
      go_roundw
      case measure => simp [intOf]; omega
      case rel =>
        have hXn' := hXn.out
        have hYn' := hYn.out
        refine ⟨k + 1, d', X.set k s, if lc = lb then X.set k s else Y, by omega, by go_num, rfl, hR.le, ?_, ?_, by show _ = _; simp [hXn'], ?_, hXl.set _ _ hR.lt, ?_, ?_, ?_, (hkp.setCell (by simp) _).drew⟩
        · have := (hX.set k s).drew; rw [List.set_append_left _ _ (by omega)] at this; exact this
        · split
          · rename_i e; subst e
            have e1 := hX.inj hY
            have e2 := List.append_inj e1 (by omega)
            have := (hY.set k s).drew; rw [List.set_append_left _ _ (by omega)] at this; rw [e2.1]; exact this
          · rename_i e; exact (hY.other (a := ⟨lb, k, none⟩) e _).drew
        · show _ = _; split <;> simp [hXn', hYn']
        · split
          · exact hXl.set _ _ hR.lt
          · exact hYl
        · show _ = _
          have h0 : Y.drop (k + 1) = M.drop (k + 1) := by
            have := congrArg (List.drop 1) hdr.out
            simpa [List.drop_drop, Nat.add_comm] using this
          split
          · rename_i e; subst e
            have e1 := hX.inj hY
            have e2 := List.append_inj e1 (by omega)
            rw [List.drop_set_of_lt (by omega), e2.1]; exact h0
          · exact h0
        · show _ = _
          have hMn := KM2.out
          have hy0 : M[k]'(by omega) = yk := by
            have := congrArg (fun l => l[0]?) hdr.out
            simp [List.getElem?_drop] at this
            rw [List.getElem?_eq_getElem (by omega), List.getElem?_eq_getElem (by omega)] at this
            simp at this
            rw [← this]; exact Hyk.out
          rw [val_take_succ M k (by omega)]
          refine sub_round (L := X) (M := M) (d := d) (by omega) (by omega) hv.out ?_
          rw [Hxk.out, hy0]; exact hR
    · have : k = n := by omega
      subst this
      go_wp2
      go_ret
      have hMn := KM2.out
      refine ⟨val X, d, rfl, hd, ?_, ⟨HH.out.keeps hkp (by simpa using hne), X, J, hX, hXn.out, by have := hXn.out; have := KL3.out; have := KL2.out; omega, hXl, rfl⟩, hkp⟩
      have := hv.out
      rw [List.take_of_length_le (by omega), KM5.out] at this
      exact this

end Go.Proofs.Ytnfjmngchapdnaa
