import Derived.Test.YtnfjmngchapdnaaGreatDoorMMath
import Derived.Test.YtnfjmngchapdnaaGreatDoorTxt
import Derived.Outline
/- bigmod: choices, masks, equality of words. -/
namespace Go.Proofs.YtnfjmngchapdnaaGreatDoor
open Go.RowKit

theorem ret_int {k : IntKind} {a b : Int} (h : a = b) : Ending.returned (.int k a) = .returned (.int k b) := by rw [h]

/-- c is the choice that says whether p. -/
structure Ch (p : Prop) (c : Nat) : Prop where
  le : c ≤ 1
  iff : c = 1 ↔ p
theorem Ch.yes {p : Prop} {c : Nat} (h : Ch p c) (hp : p) : c = 1 := h.iff.2 hp
theorem Ch.no {p : Prop} {c : Nat} (h : Ch p c) (hp : ¬ p) : c = 0 := by
  have := h.le; have h2 : c ≠ 1 := fun e => hp (h.iff.1 e); omega
theorem Ch.congr {p q : Prop} {c : Nat} (h : Ch p c) (e : p ↔ q) : Ch q c := ⟨h.le, h.iff.trans e⟩
theorem Ch.one : Ch True 1 := ⟨by omega, by simp⟩
theorem Ch.zero : Ch False 0 := ⟨by omega, by simp⟩
theorem Ch.case {p : Prop} {c : Nat} (h : Ch p c) : (c = 0 ∧ ¬ p) ∨ (c = 1 ∧ p) := by
  have := h.le
  by_cases hp : p
  · exact .inr ⟨h.yes hp, hp⟩
  · exact .inl ⟨h.no hp, hp⟩
theorem Ch.ite (p : Prop) [Decidable p] : Ch p (if p then 1 else 0) := by split <;> constructor <;> simp_all

theorem and_ch {p q : Prop} {c d : Nat} (hc : Ch p c) (hd : Ch q d) : ∃ r : Nat, Go.bits .and .u64 (c : Int) (d : Int) = (r : Int) ∧ Ch (p ∧ q) r := by
  rcases hc.case with ⟨rfl, h1⟩ | ⟨rfl, h1⟩ <;> rcases hd.case with ⟨rfl, h2⟩ | ⟨rfl, h2⟩
  · exact ⟨0, rfl, by omega, by simp [h1]⟩
  · exact ⟨0, rfl, by omega, by simp [h1]⟩
  · exact ⟨0, rfl, by omega, by simp [h2]⟩
  · exact ⟨1, rfl, by omega, by simp [h1, h2]⟩
theorem or_ch {p q : Prop} {c d : Nat} (hc : Ch p c) (hd : Ch q d) : ∃ r : Nat, Go.bits .or .u64 (c : Int) (d : Int) = (r : Int) ∧ Ch (p ∨ q) r := by
  rcases hc.case with ⟨rfl, h1⟩ | ⟨rfl, h1⟩ <;> rcases hd.case with ⟨rfl, h2⟩ | ⟨rfl, h2⟩
  · exact ⟨0, rfl, by omega, by simp [h1, h2]⟩
  · exact ⟨1, rfl, by omega, by simp [h2]⟩
  · exact ⟨1, rfl, by omega, by simp [h1]⟩
  · exact ⟨1, rfl, by omega, by simp [h1, h2]⟩
theorem not_ch {p : Prop} {c : Nat} (hc : Ch p c) : ∃ r : Nat, Go.bits .xor .u64 1 (c : Int) = (r : Int) ∧ Ch (¬ p) r := by
  rcases hc.case with ⟨rfl, h1⟩ | ⟨rfl, h1⟩
  · exact ⟨1, rfl, by omega, by simp [h1]⟩
  · exact ⟨0, rfl, by omega, by simp [h1]⟩

set_option maxHeartbeats 400000 in
theorem not_any {p : Prop} (c : Nat) (hc : Ch p c) (w : World) :
    Calls Tryz.prog 89 #[.int .u64 c] w fun e w' => ∃ r : Nat, e = .returned (.int .u64 (r : Int)) ∧ Ch (¬ p) r ∧ w = w' := by
  obtain ⟨r, hr, hR⟩ := not_ch hc
  go_enter Tryz.func89, Tryz.ntmps89
  go_wp2
  go_ret
  exact ⟨r, rfl, hR, rfl⟩

/-- The mask of a choice. -/
structure Mask (p : Prop) (m : Nat) : Prop where
  yes : p → m = 18446744073709551615
  no : ¬ p → m = 0
theorem mask_ch {p : Prop} {c : Nat} (hc : Ch p c) : ∃ m : Nat, -(c : Int) % 18446744073709551616 = (m : Int) ∧ Mask p m := by
  rcases hc.case with ⟨rfl, h1⟩ | ⟨rfl, h1⟩
  · exact ⟨0, by decide, fun h => absurd h h1, fun _ => rfl⟩
  · exact ⟨18446744073709551615, by decide, fun _ => rfl, fun h => absurd h1 h⟩

set_option maxHeartbeats 400000 in
theorem ctMask_any {p : Prop} (c : Nat) (hc : Ch p c) (w : World) :
    Calls Tryz.prog 110 #[.int .u64 c] w fun e w' => ∃ m : Nat, e = .returned (.int .u64 (m : Int)) ∧ Mask p m ∧ w = w' := by
  obtain ⟨m, hm, hM⟩ := mask_ch hc
  have Hm := Lib.hid hm
  clear hm hc
  go_enter Tryz.func110, Tryz.ntmps110
  go_wp2
  go_ret
  exact ⟨m, ret_int Hm.out, hM, rfl⟩

/-- x ^ (mask & (x ^ y)). -/
theorem pick_mask {p : Prop} {m : Nat} (hm : Mask p m) (x y : Nat) (hx : x < BB) (hy : y < BB) :
    ∃ z : Nat, Go.bits .xor .u64 (x : Int) (Go.bits .and .u64 (m : Int) (Go.bits .xor .u64 (x : Int) (y : Int))) = (z : Int) ∧ z < BB ∧ (p → z = y) ∧ (¬ p → z = x) := by
  have hbx : ∀ a b : Nat, a < BB → b < BB → Go.bits .xor .u64 (a : Int) (b : Int) = ((a ^^^ b : Nat) : Int) := by
    intro a b ha hb
    unfold BB at ha hb
    have hxx : a ^^^ b < 2 ^ 64 := Nat.xor_lt_two_pow (by omega) (by omega)
    have h1 : (BitVec.ofInt 64 (a : Int)).toNat = a := by
      rw [BitVec.ofInt_natCast, BitVec.toNat_ofNat]; exact Nat.mod_eq_of_lt (by omega)
    have h2 : (BitVec.ofInt 64 (b : Int)).toNat = b := by
      rw [BitVec.ofInt_natCast, BitVec.toNat_ofNat]; exact Nat.mod_eq_of_lt (by omega)
    show IntKind.u64.wrap ((BitVec.ofInt 64 (a : Int) ^^^ BitVec.ofInt 64 (b : Int)).toNat : Int) = _
    rw [BitVec.toNat_xor, h1, h2, IntKind.wrap_u64]
    omega
  have hlt : x ^^^ y < BB := by rw [BB_eq] at *; exact Nat.xor_lt_two_pow hx hy
  rw [hbx x y hx hy]
  by_cases hp : p
  · have := hm.yes hp; subst this
    rw [show ((18446744073709551615 : Nat) : Int) = ((18446744073709551615 : Nat) : Int) from rfl, bits_and_u64_nat _ _ (by omega) (by unfold BB at hlt; exact hlt)]
    have e : 18446744073709551615 &&& (x ^^^ y) = x ^^^ y := by
      rw [Nat.and_comm]
      have := Nat.and_two_pow_sub_one_eq_mod (x ^^^ y) 64
      rw [show (2 : Nat) ^ 64 - 1 = 18446744073709551615 from rfl] at this
      rw [this]; exact Nat.mod_eq_of_lt (by rw [← BB_eq]; exact hlt)
    rw [e, hbx x _ hx hlt]
    refine ⟨_, rfl, ?_, fun _ => ?_, fun h => absurd hp h⟩
    · rw [BB_eq] at *; exact Nat.xor_lt_two_pow hx hlt
    · rw [← Nat.xor_assoc, Nat.xor_self, Nat.zero_xor]
  · have := hm.no hp; subst this
    rw [bits_and_u64_nat _ _ (by omega) (by unfold BB at hlt; exact hlt), Nat.zero_and, hbx x 0 hx BB_pos, Nat.xor_zero]
    exact ⟨x, rfl, hx, fun h => absurd h hp, fun _ => rfl⟩

theorem subr_eq {x y s d s' d' : Nat} (hx : x < BB) (hy : y < BB) (h1 : SubR x y 0 s d) (h2 : SubR y x 0 s' d') : (d = 0 ∧ d' = 0) ↔ x = y := by
  have a := h1.eq; have b := h2.eq; have c := h1.lt; have e := h2.lt; have f := h1.le; have g := h2.le
  have d01 : d = 0 ∨ d = 1 := by omega
  have e01 : d' = 0 ∨ d' = 1 := by omega
  rcases d01 with rfl | rfl <;> rcases e01 with rfl | rfl <;> omega

set_option maxHeartbeats 1000000 in
theorem ctEq_any (x y : Nat) (hx : x < BB) (hy : y < BB) (w : World) :
    Calls Tryz.prog 96 #[.int .u64 x, .int .u64 y] w fun e w' => ∃ c : Nat, e = .returned (.int .u64 (c : Int)) ∧ Ch (x = y) c ∧ w = w' := by
  go_enter Tryz.func96, Tryz.ntmps96
  go_wp2_with fail
  refine (sub_any_z x y hx hy _).mono ?_
  rintro e w' ⟨s, d, rfl, hR, rfl⟩
  go_wp2_with fail
  refine (sub_any_z y x hy hx _).mono ?_
  rintro e w' ⟨s', d', rfl, hR', rfl⟩
  have hd : Ch (d ≠ 0) d := ⟨hR.le, by have := hR.le; omega⟩
  have hd' : Ch (d' ≠ 0) d' := ⟨hR'.le, by have := hR'.le; omega⟩
  obtain ⟨r, hr, hor⟩ := or_ch hd hd'
  go_wp2_with fail
  refine (not_any r hor _).mono ?_
  rintro e w' ⟨c, rfl, hc, rfl⟩
  go_wp2
  go_ret
  exact ⟨c, rfl, hc.congr (by rw [← subr_eq hx hy hR hR']; omega), rfl⟩

theorem ctEq_z (x : Nat) (hx : x < BB) (w : World) :
    Calls Tryz.prog 96 #[.int .u64 x, .int .u64 0] w fun e w' => ∃ c : Nat, e = .returned (.int .u64 (c : Int)) ∧ Ch (x = 0) c ∧ w = w' := ctEq_any x 0 hx BB_pos w
theorem ctEq_1 (x : Nat) (hx : x < BB) (w : World) :
    Calls Tryz.prog 96 #[.int .u64 x, .int .u64 1] w fun e w' => ∃ c : Nat, e = .returned (.int .u64 (c : Int)) ∧ Ch (x = 1) c ∧ w = w' := ctEq_any x 1 hx (by unfold BB; omega) w

end Go.Proofs.YtnfjmngchapdnaaGreatDoor

/- bigmod: comparisons of Nats, and the choice between two. -/
namespace Go.Proofs.YtnfjmngchapdnaaGreatDoor
open Go.RowKit

theorem pow_BB_pos (k : Nat) : 0 < BB ^ k := Nat.pow_pos BB_pos
theorem val_take_lt {L : List Nat} (h : Lt L) (k : Nat) (hk : k ≤ L.length) : val (L.take k) < BB ^ k := by
  have := val_lt (h.take k)
  rwa [List.length_take, Nat.min_eq_left hk] at this

theorem eq_step {a b x y P : Nat} (ha : a < P) (hb : b < P) : (a + P * x = b + P * y) ↔ a = b ∧ x = y := by
  constructor
  · intro h
    have h1 : a = b := by
      have := congrArg (· % P) h
      simp only [Nat.add_mul_mod_self_left] at this
      rwa [Nat.mod_eq_of_lt ha, Nat.mod_eq_of_lt hb] at this
    subst h1
    have h3 : P * x = P * y := by omega
    exact ⟨rfl, Nat.eq_of_mul_eq_mul_left (by omega) h3⟩
  · rintro ⟨rfl, rfl⟩; rfl
theorem zero_step {a x P : Nat} (hP : 0 < P) : (a + P * x = 0) ↔ a = 0 ∧ x = 0 := by
  constructor
  · intro h
    refine ⟨by omega, ?_⟩
    rcases Nat.eq_zero_or_pos x with h1 | h1
    · exact h1
    · have : P * 1 ≤ P * x := Nat.mul_le_mul_left _ h1
      omega
  · rintro ⟨rfl, rfl⟩; simp
theorem one_step {a x P : Nat} (hP : 1 < P) : (a + P * x = 1) ↔ a = 1 ∧ x = 0 := by
  constructor
  · intro h
    rcases Nat.eq_zero_or_pos x with h1 | h1
    · subst h1; simp at h; exact ⟨h, rfl⟩
    · have : P * 1 ≤ P * x := Nat.mul_le_mul_left _ h1
      omega
  · rintro ⟨rfl, rfl⟩; simp

set_option maxRecDepth 100000 in
set_option maxHeartbeats 1000000 in
theorem nat_cmpGeq (p lb q lc n c c' v u : Nat) (w : World) (hx : NatV w p lb n c v) (hy : NatV w q lc n c' u) (hn : n ≤ 1000) :
    Calls Tryz.prog 66 #[.pointer (some ⟨p, 0, none⟩), .pointer (some ⟨q, 0, none⟩)] w fun e w' =>
      ∃ r : Nat, e = .returned (.int .u64 (r : Int)) ∧ Ch (u ≤ v) r ∧ Keeps [] w w' := by
  have h1 := hx.hdr.cell
  have h2 := hy.hdr.cell
  have g1 := hx.le
  have g2 := hy.le
  have gv := hx.lt
  have gu := hy.lt
  obtain ⟨_, L, J, hL1, hL2, hL3, hL4, hL5⟩ := hx
  obtain ⟨_, M, I, hM1, hM2, hM3, hM4, hM5⟩ := hy
  have KV := Lib.hid gv; have KU := Lib.hid gu
  have KL2 := Lib.hid hL2; have KL5 := Lib.hid hL5; have KM2 := Lib.hid hM2; have KM5 := Lib.hid hM5
  clear hL2 hL3 hL5 hM2 hM3 hM5 gv gu
  go_enter Tryz.func66, Tryz.ntmps66
  go_wp2
  clear h1 h2
  go_loopw [8, 9] (fun c i wr => ∃ (k d s : Nat), k ≤ n ∧ i = .int .i64 k ∧ c = .int .u64 d ∧ d ≤ 1 ∧ Hid (s < BB ^ k) ∧ Hid (s + val (M.take k) = val (L.take k) + d * BB ^ k) ∧ Keeps [] w wr) (fun _ i _ => n - (intOf i).toNat)
  case atStart => exact ⟨0, 0, 0, Nat.zero_le _, rfl, rfl, by omega, by show _ < _; simp, by show _ = _; simp [val], Keeps.refl _ _⟩
  case round =>
    obtain ⟨k, d, s, hk, rfl, rfl, hd, hs, hv, hkp⟩ := hrel
    by_cases hlt : k < n
    · have c1 := (hL1.keeps hkp (by simp)).cell k (by have := KL2.out; simp; omega)
      have c2 := (hM1.keeps hkp (by simp)).cell k (by have := KM2.out; simp; omega)
      have b1 := hL4.get k (by have := KL2.out; omega)
      have b2 := hM4.get k (by have := KM2.out; omega)
      rw [List.getElem_append_left (by have := KL2.out; omega)] at c1
      rw [List.getElem_append_left (by have := KM2.out; omega)] at c2
      obtain ⟨xk, hxk⟩ : ∃ x, L[k]'(by have := KL2.out; omega) = x := ⟨_, rfl⟩
      obtain ⟨yk, hyk⟩ : ∃ x, M[k]'(by have := KM2.out; omega) = x := ⟨_, rfl⟩
      rw [hxk] at c1 b1
      rw [hyk] at c2 b2
      have Hxk := Lib.hid hxk; have Hyk := Lib.hid hyk; clear hxk hyk
      go_wp2_with fail
      refine wp_region_txt [0,0,0,1,0,0,0,1,0,2,0,0,0,0] (fun _ => True) (by kernel_rfl) (by kernel_rfl) trivial ?_
      simp only [withMarks]
      repeat (first
        | ((with_reducible refine txt_v (v := ?_) ?_ ?_); (any_goals ((with_reducible refine Yl.mk ?_ ?_); rfl; intro w hSw; (go_simp <;> (try go_bits) <;> (repeat (first | rw [if_pos (by omega)] | rw [if_neg (by omega)])) <;> with_reducible rfl))); try simp only [Act.put, List.setIfInBounds_toArray, List.set_cons_zero, List.set_cons_succ])
        | ((with_reducible refine txt_u ?_ ?_); rfl; try simp only [Act.put, List.setIfInBounds_toArray, List.set_cons_zero, List.set_cons_succ])
        | ((with_reducible refine txt_l (v := ?_) ?_ ?_); (any_goals ((with_reducible refine Reads.mk ?_ ?_); rfl; (go_simp <;> (try go_bits) <;> (repeat (first | rw [if_pos (by omega)] | rw [if_neg (by omega)])) <;> with_reducible rfl))); try simp only [Act.put, List.setIfInBounds_toArray, List.set_cons_zero, List.set_cons_succ])
        | ((with_reducible refine txt_e ?_ ?_); rfl; intro K hK; go_simp; (first | (refine hK _ _ trivial ?_) | ((first | (go_at_call 88; refine (sub_any _ _ _ b1 b2 hd _).mono ?_; rintro e w' ⟨s', d', rfl, hR, rfl⟩)); dsimp only; refine hK _ _ trivial ?_)); clear hK K; try simp only [Act.put, List.setIfInBounds_toArray, List.set_cons_zero, List.set_cons_succ]))
      refine txt_nil ?_
      go_wp2
      go_roundw
      case measure => simp [intOf]; omega
      case rel =>
        have hLn := KL2.out
        have hMn := KM2.out
        refine ⟨k + 1, d', s + BB ^ k * s', by omega, by go_num, rfl, hR.le, ?_, ?_, hkp.drew⟩
        · show _ < _
          have h3 : BB ^ k * (s' + 1) ≤ BB ^ k * BB := Nat.mul_le_mul_left _ hR.lt
          have := hs.out
          rw [Nat.pow_succ]
          rw [Nat.mul_add] at h3
          omega
        · show _ = _
          rw [val_take_succ L k (by omega), val_take_succ M k (by omega), Hxk.out, Hyk.out]
          have h1 := hv.out
          have h2 := congrArg (BB ^ k * ·) hR.eq
          simp only [Nat.mul_add] at h2
          have e : d' * BB ^ (k + 1) = BB ^ k * (d' * BB) := by
            rw [Nat.pow_succ, ← Nat.mul_assoc, Nat.mul_comm d', Nat.mul_assoc]
          rw [e]
          have e2 : d * BB ^ k = BB ^ k * d := Nat.mul_comm _ _
          rw [e2] at h1
          omega
    · have : k = n := by omega
      subst this
      have hch : Ch (d ≠ 0) d := ⟨hd, by omega⟩
      go_wp2_with fail
      refine (not_any d hch _).mono ?_
      rintro e w' ⟨r, rfl, hr, rfl⟩
      go_wp2
      go_ret
      refine ⟨r, rfl, hr.congr ?_, hkp⟩
      have h1 := hv.out
      have h2 := hs.out
      rw [List.take_of_length_le (by have := KL2.out; have := KM2.out; omega), List.take_of_length_le (by have := KL2.out; have := KM2.out; omega), KL5.out, KM5.out] at h1
      have d01 : d = 0 ∨ d = 1 := by omega
      rcases d01 with rfl | rfl <;> simp <;> omega

set_option maxRecDepth 100000 in
set_option maxHeartbeats 1000000 in
theorem nat_Equal (p lb q lc n c c' v u : Nat) (w : World) (hx : NatV w p lb n c v) (hy : NatV w q lc n c' u) (hn : n ≤ 1000) :
    Calls Tryz.prog 79 #[.pointer (some ⟨p, 0, none⟩), .pointer (some ⟨q, 0, none⟩)] w fun e w' =>
      ∃ r : Nat, e = .returned (.int .u64 (r : Int)) ∧ Ch (v = u) r ∧ Keeps [] w w' := by
  have h1 := hx.hdr.cell
  have h2 := hy.hdr.cell
  have g1 := hx.le
  have g2 := hy.le
  obtain ⟨_, L, J, hL1, hL2, hL3, hL4, hL5⟩ := hx
  obtain ⟨_, M, I, hM1, hM2, hM3, hM4, hM5⟩ := hy
  have KL2 := Lib.hid hL2; have KL5 := Lib.hid hL5; have KM2 := Lib.hid hM2; have KM5 := Lib.hid hM5
  clear hL2 hL3 hL5 hM2 hM3 hM5
  go_enter Tryz.func79, Tryz.ntmps79
  go_wp2
  clear h1 h2
  go_loopw [8, 9] (fun c i wr => ∃ (k d : Nat), k ≤ n ∧ i = .int .i64 k ∧ c = .int .u64 d ∧ Ch (val (L.take k) = val (M.take k)) d ∧ Keeps [] w wr) (fun _ i _ => n - (intOf i).toNat)
  case atStart => exact ⟨0, 1, Nat.zero_le _, rfl, rfl, by simpa using Ch.one, Keeps.refl _ _⟩
  case round =>
    obtain ⟨k, d, hk, rfl, rfl, hd, hkp⟩ := hrel
    by_cases hlt : k < n
    · have c1 := (hL1.keeps hkp (by simp)).cell k (by have := KL2.out; simp; omega)
      have c2 := (hM1.keeps hkp (by simp)).cell k (by have := KM2.out; simp; omega)
      have b1 := hL4.get k (by have := KL2.out; omega)
      have b2 := hM4.get k (by have := KM2.out; omega)
      rw [List.getElem_append_left (by have := KL2.out; omega)] at c1
      rw [List.getElem_append_left (by have := KM2.out; omega)] at c2
      obtain ⟨xk, hxk⟩ : ∃ x, L[k]'(by have := KL2.out; omega) = x := ⟨_, rfl⟩
      obtain ⟨yk, hyk⟩ : ∃ x, M[k]'(by have := KM2.out; omega) = x := ⟨_, rfl⟩
      rw [hxk] at c1 b1
      rw [hyk] at c2 b2
      have Hxk := Lib.hid hxk; have Hyk := Lib.hid hyk; clear hxk hyk
      go_wp2_with fail
      refine wp_region_txt [0,0,0,0,1,0,0,0,1,2,0,0] (fun _ => True) (by kernel_rfl) (by kernel_rfl) trivial ?_
      simp only [withMarks]
      repeat (first
        | ((with_reducible refine txt_v (v := ?_) ?_ ?_); (any_goals ((with_reducible refine Yl.mk ?_ ?_); rfl; intro w hSw; (go_simp <;> (try go_bits) <;> (repeat (first | rw [if_pos (by omega)] | rw [if_neg (by omega)])) <;> with_reducible rfl))); try simp only [Act.put, List.setIfInBounds_toArray, List.set_cons_zero, List.set_cons_succ])
        | ((with_reducible refine txt_u ?_ ?_); rfl; try simp only [Act.put, List.setIfInBounds_toArray, List.set_cons_zero, List.set_cons_succ])
        | ((with_reducible refine txt_l (v := ?_) ?_ ?_); (any_goals ((with_reducible refine Reads.mk ?_ ?_); rfl; (go_simp <;> (try go_bits) <;> (repeat (first | rw [if_pos (by omega)] | rw [if_neg (by omega)])) <;> with_reducible rfl))); try simp only [Act.put, List.setIfInBounds_toArray, List.set_cons_zero, List.set_cons_succ])
        | ((with_reducible refine txt_e ?_ ?_); rfl; intro K hK; go_simp; (first | (refine hK _ _ trivial ?_) | ((first | (go_at_call 96; refine (ctEq_any _ _ b1 b2 _).mono ?_; rintro e w' ⟨s', rfl, hR, rfl⟩; obtain ⟨r', hr', hR'⟩ := and_ch hd hR)); dsimp only; refine hK _ _ trivial ?_)); clear hK K; try simp only [Act.put, List.setIfInBounds_toArray, List.set_cons_zero, List.set_cons_succ]))
      refine txt_nil ?_
      go_wp2
      go_roundw
      case measure => simp [intOf]; omega
      case rel =>
        have hLn := KL2.out
        have hMn := KM2.out
        refine ⟨k + 1, r', by omega, by go_num, rfl, hR'.congr ?_, hkp.drew⟩
        rw [val_take_succ L k (by omega), val_take_succ M k (by omega), Hxk.out, Hyk.out]
        exact (eq_step (val_take_lt hL4 k (by omega)) (val_take_lt hM4 k (by omega))).symm
    · have : k = n := by omega
      subst this
      go_wp2
      go_ret
      refine ⟨d, rfl, hd.congr ?_, hkp⟩
      rw [List.take_of_length_le (by have := KL2.out; have := KM2.out; omega), List.take_of_length_le (by have := KL2.out; have := KM2.out; omega), KL5.out, KM5.out]

set_option maxRecDepth 100000 in
set_option maxHeartbeats 1000000 in
theorem nat_IsZero (p lb n c v : Nat) (w : World) (hx : NatV w p lb n c v) (hn : n ≤ 1000) :
    Calls Tryz.prog 75 #[.pointer (some ⟨p, 0, none⟩)] w fun e w' =>
      ∃ r : Nat, e = .returned (.int .u64 (r : Int)) ∧ Ch (v = 0) r ∧ w = w' := by
  have h1 := hx.hdr.cell
  have g1 := hx.le
  obtain ⟨_, L, J, hL1, hL2, hL3, hL4, hL5⟩ := hx
  have KL2 := Lib.hid hL2; have KL5 := Lib.hid hL5
  clear hL2 hL3 hL5
  go_enter Tryz.func75, Tryz.ntmps75
  go_wp2
  clear h1
  go_loop [5, 6] (fun c i => ∃ (k d : Nat), k ≤ n ∧ i = .int .i64 k ∧ c = .int .u64 d ∧ Ch (val (L.take k) = 0) d) (fun _ i => n - (intOf i).toNat)
  case atStart => exact ⟨0, 1, Nat.zero_le _, rfl, rfl, by simpa [val] using Ch.one⟩
  case round =>
    obtain ⟨k, d, hk, rfl, rfl, hd⟩ := hrel
    by_cases hlt : k < n
    · have c1 := hL1.cell k (by have := KL2.out; simp; omega)
      have b1 := hL4.get k (by have := KL2.out; omega)
      rw [List.getElem_append_left (by have := KL2.out; omega)] at c1
      obtain ⟨xk, hxk⟩ : ∃ x, L[k]'(by have := KL2.out; omega) = x := ⟨_, rfl⟩
      rw [hxk] at c1 b1
      have Hxk := Lib.hid hxk; clear hxk
      go_wp2_with fail
      refine (ctEq_z _ b1 _).mono ?_
      rintro e w' ⟨s', rfl, hR, rfl⟩
      obtain ⟨r', hr', hR'⟩ := and_ch hd hR
      go_wp2
      go_round
      case measure => simp [intOf]; omega
      case rel =>
        have hLn := KL2.out
        refine ⟨k + 1, r', by omega, by go_num, rfl, hR'.congr ?_⟩
        rw [val_take_succ L k (by omega), Hxk.out]
        exact (zero_step (pow_BB_pos k)).symm
    · have : k = n := by omega
      subst this
      go_wp2
      go_ret
      refine ⟨d, rfl, hd.congr ?_, rfl⟩
      rw [List.take_of_length_le (by have := KL2.out; omega), KL5.out]

end Go.Proofs.YtnfjmngchapdnaaGreatDoor
