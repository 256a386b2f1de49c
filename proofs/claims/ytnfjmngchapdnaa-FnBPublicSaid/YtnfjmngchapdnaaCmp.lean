/- bigmod: comparisons of Nats, and the choice between two. -/
import Derived.Test.YtnfjmngchapdnaaSmall
import Derived.Outline
namespace Go.Proofs.Ytnfjmngchapdnaa
open Go.RowKit

theorem pow_BB_pos (k : Nat) : 0 < BB ^ k := Nat.pow_pos BB_pos
theorem val_take_lt {L : List Nat} (h : Lt L) (k : Nat) (hk : k ≤ L.length) : val (L.take k) < BB ^ k := by
  have := val_lt (h.take k)
  rwa [List.length_take, Nat.min_eq_left hk] at this

theorem eq_step {a b x y P : Nat} (ha : a < P) (hb : b < P) : (a + P * x = b + P * y) ↔ a = b ∧ x = y := by
  constructor
  · intro h
    have h1 : a = b := by
      have := congrArg (· % P) h
      simp only [Nat.add_mul_mod_self_left] at this
      rwa [Nat.mod_eq_of_lt ha, Nat.mod_eq_of_lt hb] at this
    subst h1
    have h3 : P * x = P * y := by omega
    exact ⟨rfl, Nat.eq_of_mul_eq_mul_left (by omega) h3⟩
  · rintro ⟨rfl, rfl⟩; rfl
theorem zero_step {a x P : Nat} (hP : 0 < P) : (a + P * x = 0) ↔ a = 0 ∧ x = 0 := by
  constructor
  · intro h
    refine ⟨by omega, ?_⟩
    rcases Nat.eq_zero_or_pos x with h1 | h1
    · exact h1
    · have : P * 1 ≤ P * x := Nat.mul_le_mul_left _ h1
      omega
  · rintro ⟨rfl, rfl⟩; simp
theorem one_step {a x P : Nat} (hP : 1 < P) : (a + P * x = 1) ↔ a = 1 ∧ x = 0 := by
  constructor
  · intro h
    rcases Nat.eq_zero_or_pos x with h1 | h1
    · subst h1; simp at h; exact ⟨h, rfl⟩
    · have : P * 1 ≤ P * x := Nat.mul_le_mul_left _ h1
      omega
  · rintro ⟨rfl, rfl⟩; simp

set_option maxRecDepth 100000 in
set_option maxHeartbeats 1000000 in
theorem nat_cmpGeq (p lb q lc n c c' v u : Nat) (w : World) (hx : NatV w p lb n c v) (hy : NatV w q lc n c' u) (hn : n ≤ 1000) :
    Calls Try.prog 52 #[.pointer (some ⟨p, 0, none⟩), .pointer (some ⟨q, 0, none⟩)] w fun e w' =>
      ∃ r : Nat, e = .returned (.int .u64 (r : Int)) ∧ Ch (u ≤ v) r ∧ Keeps [] w w' := by
  have h1 := hx.hdr.cell
  have h2 := hy.hdr.cell
  have g1 := hx.le
  have g2 := hy.le
  have gv := hx.lt
  have gu := hy.lt
  obtain ⟨_, L, J, hL1, hL2, hL3, hL4, hL5⟩ := hx
  obtain ⟨_, M, I, hM1, hM2, hM3, hM4, hM5⟩ := hy
  have KV := Lib.hid gv; have KU := Lib.hid gu
  have KL2 := Lib.hid hL2; have KL5 := Lib.hid hL5; have KM2 := Lib.hid hM2; have KM5 := Lib.hid hM5
  clear hL2 hL3 hL5 hM2 hM3 hM5 gv gu
  go_enter Try.func52, Try.ntmps52
  go_wp2
  clear h1 h2
  go_loopw [8, 9] (fun c i wr => ∃ (k d s : Nat), k ≤ n ∧ i = .int .i64 k ∧ c = .int .u64 d ∧ d ≤ 1 ∧ Hid (s < BB ^ k) ∧ Hid (s + val (M.take k) = val (L.take k) + d * BB ^ k) ∧ Keeps [] w wr) (fun _ i _ => n - (intOf i).toNat)
  case atStart => exact ⟨0, 0, 0, Nat.zero_le _, rfl, rfl, by omega, by show _ < _; simp, by show _ = _; simp [val], Keeps.refl _ _⟩
  case round =>
    obtain ⟨k, d, s, hk, rfl, rfl, hd, hs, hv, hkp⟩ := hrel
    by_cases hlt : k < n
    · have c1 := (hL1.keeps hkp (by simp)).cell k (by have := KL2.out; simp; omega)
      have c2 := (hM1.keeps hkp (by simp)).cell k (by have := KM2.out; simp; omega)
      have b1 := hL4.get k (by have := KL2.out; omega)
      have b2 := hM4.get k (by have := KM2.out; omega)
      rw [List.getElem_append_left (by have := KL2.out; omega)] at c1
      rw [List.getElem_append_left (by have := KM2.out; omega)] at c2
      obtain ⟨xk, hxk⟩ : ∃ x, L[k]'(by have := KL2.out; omega) = x := ⟨_, rfl⟩
      obtain ⟨yk, hyk⟩ : ∃ x, M[k]'(by have := KM2.out; omega) = x := ⟨_, rfl⟩
      rw [hxk] at c1 b1
      rw [hyk] at c2 b2
      have Hxk := Lib.hid hxk; have Hyk := Lib.hid hyk; clear hxk hyk
      go_wp2_with fail
      refine wp_region_txt [0,0,0,1,0,0,0,1,0,2,0,0,0,0] (fun _ => True) (by kernel_rfl) (by kernel_rfl) trivial ?_
      simp only [withMarks]
      repeat (first
        | ((with_reducible refine txt_v (v := ?_) ?_ ?_); any_goals ((with_reducible refine Yl.mk ?_ ?_); rfl; intro w hSw; (go_simp <;> (try go_bits) <;> (try rw [if_pos (by omega)]) <;> with_reducible rfl)); try simp only [Act.put, List.setIfInBounds_toArray, List.set_cons_zero, List.set_cons_succ])
        | ((with_reducible refine txt_u ?_ ?_); rfl; try simp only [Act.put, List.setIfInBounds_toArray, List.set_cons_zero, List.set_cons_succ])
        | ((with_reducible refine txt_l (v := ?_) ?_ ?_); any_goals ((with_reducible refine Reads.mk ?_ ?_); rfl; (go_simp <;> (try go_bits) <;> (try rw [if_pos (by omega)]) <;> with_reducible rfl)); try simp only [Act.put, List.setIfInBounds_toArray, List.set_cons_zero, List.set_cons_succ])
        | ((with_reducible refine txt_e ?_ ?_); rfl; intro K hK; go_simp; (first | (refine hK _ _ trivial ?_) | ((first | (go_at_call 70; refine (sub_any _ _ _ b1 b2 hd _).mono ?_; rintro e w' ⟨s', d', rfl, hR, rfl⟩)); dsimp only; refine hK _ _ trivial ?_)); clear hK K; try simp only [Act.put, List.setIfInBounds_toArray, List.set_cons_zero, List.set_cons_succ]))
      refine txt_nil ?_
      go_wp2
      go_roundw
      case measure => simp [intOf]; omega
      case rel =>
        have hLn := KL2.out
        have hMn := KM2.out
        refine ⟨k + 1, d', s + BB ^ k * s', by omega, by go_num, rfl, hR.le, ?_, ?_, hkp.drew⟩
        · show _ < _
          have h3 : BB ^ k * (s' + 1) ≤ BB ^ k * BB := Nat.mul_le_mul_left _ hR.lt
          have := hs.out
          rw [Nat.pow_succ]
          rw [Nat.mul_add] at h3
          omega
        · show _ = _
          rw [val_take_succ L k (by omega), val_take_succ M k (by omega), Hxk.out, Hyk.out]
          have h1 := hv.out
          have h2 := congrArg (BB ^ k * ·) hR.eq
          simp only [Nat.mul_add] at h2
          have e : d' * BB ^ (k + 1) = BB ^ k * (d' * BB) := by
            rw [Nat.pow_succ, ← Nat.mul_assoc, Nat.mul_comm d', Nat.mul_assoc]
          rw [e]
          have e2 : d * BB ^ k = BB ^ k * d := Nat.mul_comm _ _
          rw [e2] at h1
          omega
    · have : k = n := by omega
      subst this
      have hch : Ch (d ≠ 0) d := ⟨hd, by omega⟩
      go_wp2_with fail
      refine (not_any d hch _).mono ?_
      rintro e w' ⟨r, rfl, hr, rfl⟩
      go_wp2
      go_ret
      refine ⟨r, rfl, hr.congr ?_, hkp⟩
      have h1 := hv.out
      have h2 := hs.out
      rw [List.take_of_length_le (by have := KL2.out; have := KM2.out; omega), List.take_of_length_le (by have := KL2.out; have := KM2.out; omega), KL5.out, KM5.out] at h1
      have d01 : d = 0 ∨ d = 1 := by omega
      rcases d01 with rfl | rfl <;> simp <;> omega

set_option maxRecDepth 100000 in
set_option maxHeartbeats 1000000 in
theorem nat_Equal (p lb q lc n c c' v u : Nat) (w : World) (hx : NatV w p lb n c v) (hy : NatV w q lc n c' u) (hn : n ≤ 1000) :
    Calls Try.prog 62 #[.pointer (some ⟨p, 0, none⟩), .pointer (some ⟨q, 0, none⟩)] w fun e w' =>
      ∃ r : Nat, e = .returned (.int .u64 (r : Int)) ∧ Ch (v = u) r ∧ Keeps [] w w' := by
  have h1 := hx.hdr.cell
  have h2 := hy.hdr.cell
  have g1 := hx.le
  have g2 := hy.le
  obtain ⟨_, L, J, hL1, hL2, hL3, hL4, hL5⟩ := hx
  obtain ⟨_, M, I, hM1, hM2, hM3, hM4, hM5⟩ := hy
  have KL2 := Lib.hid hL2; have KL5 := Lib.hid hL5; have KM2 := Lib.hid hM2; have KM5 := Lib.hid hM5
  clear hL2 hL3 hL5 hM2 hM3 hM5
  go_enter Try.func62, Try.ntmps62
  go_wp2
  clear h1 h2
  go_loopw [8, 9] (fun c i wr => ∃ (k d : Nat), k ≤ n ∧ i = .int .i64 k ∧ c = .int .u64 d ∧ Ch (val (L.take k) = val (M.take k)) d ∧ Keeps [] w wr) (fun _ i _ => n - (intOf i).toNat)
  case atStart => exact ⟨0, 1, Nat.zero_le _, rfl, rfl, by simpa using Ch.one, Keeps.refl _ _⟩
  case round =>
    obtain ⟨k, d, hk, rfl, rfl, hd, hkp⟩ := hrel
    by_cases hlt : k < n
    · have c1 := (hL1.keeps hkp (by simp)).cell k (by have := KL2.out; simp; omega)
      have c2 := (hM1.keeps hkp (by simp)).cell k (by have := KM2.out; simp; omega)
      have b1 := hL4.get k (by have := KL2.out; omega)
      have b2 := hM4.get k (by have := KM2.out; omega)
      rw [List.getElem_append_left (by have := KL2.out; omega)] at c1
      rw [List.getElem_append_left (by have := KM2.out; omega)] at c2
      obtain ⟨xk, hxk⟩ : ∃ x, L[k]'(by have := KL2.out; omega) = x := ⟨_, rfl⟩
      obtain ⟨yk, hyk⟩ : ∃ x, M[k]'(by have := KM2.out; omega) = x := ⟨_, rfl⟩
      rw [hxk] at c1 b1
      rw [hyk] at c2 b2
      have Hxk := Lib.hid hxk; have Hyk := Lib.hid hyk; clear hxk hyk
      go_wp2_with fail
      refine wp_region_txt [0,0,0,0,1,0,0,0,1,2,0,0] (fun _ => True) (by kernel_rfl) (by kernel_rfl) trivial ?_
      simp only [withMarks]
      repeat (first
        | ((with_reducible refine txt_v (v := ?_) ?_ ?_); any_goals ((with_reducible refine Yl.mk ?_ ?_); rfl; intro w hSw; (go_simp <;> (try go_bits) <;> (try rw [if_pos (by omega)]) <;> with_reducible rfl)); try simp only [Act.put, List.setIfInBounds_toArray, List.set_cons_zero, List.set_cons_succ])
        | ((with_reducible refine txt_u ?_ ?_); rfl; try simp only [Act.put, List.setIfInBounds_toArray, List.set_cons_zero, List.set_cons_succ])
        | ((with_reducible refine txt_l (v := ?_) ?_ ?_); any_goals ((with_reducible refine Reads.mk ?_ ?_); rfl; (go_simp <;> (try go_bits) <;> (try rw [if_pos (by omega)]) <;> with_reducible rfl)); try simp only [Act.put, List.setIfInBounds_toArray, List.set_cons_zero, List.set_cons_succ])
        | ((with_reducible refine txt_e ?_ ?_); rfl; intro K hK; go_simp; (first | (refine hK _ _ trivial ?_) | ((first | (go_at_call 76; refine (ctEq_any _ _ b1 b2 _).mono ?_; rintro e w' ⟨s', rfl, hR, rfl⟩; obtain ⟨r', hr', hR'⟩ := and_ch hd hR)); dsimp only; refine hK _ _ trivial ?_)); clear hK K; try simp only [Act.put, List.setIfInBounds_toArray, List.set_cons_zero, List.set_cons_succ]))
      refine txt_nil ?_
      go_wp2
      go_roundw
      case measure => simp [intOf]; omega
      case rel =>
        have hLn := KL2.out
        have hMn := KM2.out
        refine ⟨k + 1, r', by omega, by go_num, rfl, hR'.congr ?_, hkp.drew⟩
        rw [val_take_succ L k (by omega), val_take_succ M k (by omega), Hxk.out, Hyk.out]
        exact (eq_step (val_take_lt hL4 k (by omega)) (val_take_lt hM4 k (by omega))).symm
    · have : k = n := by omega
      subst this
      go_wp2
      go_ret
      refine ⟨d, rfl, hd.congr ?_, hkp⟩
      rw [List.take_of_length_le (by have := KL2.out; have := KM2.out; omega), List.take_of_length_le (by have := KL2.out; have := KM2.out; omega), KL5.out, KM5.out]

set_option maxRecDepth 100000 in
set_option maxHeartbeats 1000000 in
theorem nat_IsZero (p lb n c v : Nat) (w : World) (hx : NatV w p lb n c v) (hn : n ≤ 1000) :
    Calls Try.prog 58 #[.pointer (some ⟨p, 0, none⟩)] w fun e w' =>
      ∃ r : Nat, e = .returned (.int .u64 (r : Int)) ∧ Ch (v = 0) r ∧ w = w' := by
  have h1 := hx.hdr.cell
  have g1 := hx.le
  obtain ⟨_, L, J, hL1, hL2, hL3, hL4, hL5⟩ := hx
  have KL2 := Lib.hid hL2; have KL5 := Lib.hid hL5
  clear hL2 hL3 hL5
  go_enter Try.func58, Try.ntmps58
  go_wp2
  clear h1
  go_loop [5, 6] (fun c i => ∃ (k d : Nat), k ≤ n ∧ i = .int .i64 k ∧ c = .int .u64 d ∧ Ch (val (L.take k) = 0) d) (fun _ i => n - (intOf i).toNat)
  case atStart => exact ⟨0, 1, Nat.zero_le _, rfl, rfl, by simpa [val] using Ch.one⟩
  case round =>
    obtain ⟨k, d, hk, rfl, rfl, hd⟩ := hrel
    by_cases hlt : k < n
    · have c1 := hL1.cell k (by have := KL2.out; simp; omega)
      have b1 := hL4.get k (by have := KL2.out; omega)
      rw [List.getElem_append_left (by have := KL2.out; omega)] at c1
      obtain ⟨xk, hxk⟩ : ∃ x, L[k]'(by have := KL2.out; omega) = x := ⟨_, rfl⟩
      rw [hxk] at c1 b1
      have Hxk := Lib.hid hxk; clear hxk
      go_wp2_with fail
      refine (ctEq_z _ b1 _).mono ?_
      rintro e w' ⟨s', rfl, hR, rfl⟩
      obtain ⟨r', hr', hR'⟩ := and_ch hd hR
      go_wp2
      go_round
      case measure => simp [intOf]; omega
      case rel =>
        have hLn := KL2.out
        refine ⟨k + 1, r', by omega, by go_num, rfl, hR'.congr ?_⟩
        rw [val_take_succ L k (by omega), Hxk.out]
        exact (zero_step (pow_BB_pos k)).symm
    · have : k = n := by omega
      subst this
      go_wp2
      go_ret
      refine ⟨d, rfl, hd.congr ?_, rfl⟩
      rw [List.take_of_length_le (by have := KL2.out; omega), KL5.out]

end Go.Proofs.Ytnfjmngchapdnaa
