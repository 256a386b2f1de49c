import Derived.Test.YtnfjmngchapdnaaMSmall
import Derived.Outline
/- bigmod: comparisons of Nats, and the choice between two. -/
namespace Go.Proofs.Ytnfjmngchapdnaa
open Go.RowKit

theorem pow_BB_pos (k : Nat) : 0 < BB ^ k := Nat.pow_pos BB_pos
theorem val_take_lt {L : List Nat} (h : Lt L) (k : Nat) (hk : k ≤ L.length) : val (L.take k) < BB ^ k := by
  have := val_lt (h.take k)
  rwa [List.length_take, Nat.min_eq_left hk] at this

theorem eq_step {a b x y P : Nat} (ha : a < P) (hb : b < P) : (a + P * x = b + P * y) ↔ a = b ∧ x = y := by
  constructor
  · intro h
    have h1 : a = b := by
      have := congrArg (· % P) h
      simp only [Nat.add_mul_mod_self_left] at this
      rwa [Nat.mod_eq_of_lt ha, Nat.mod_eq_of_lt hb] at this
    subst h1
    have h3 : P * x = P * y := by omega
    exact ⟨rfl, Nat.eq_of_mul_eq_mul_left (by omega) h3⟩
  · rintro ⟨rfl, rfl⟩; rfl
theorem zero_step {a x P : Nat} (hP : 0 < P) : (a + P * x = 0) ↔ a = 0 ∧ x = 0 := by
  constructor
  · intro h
    refine ⟨by omega, ?_⟩
    rcases Nat.eq_zero_or_pos x with h1 | h1
    · exact h1
    · have : P * 1 ≤ P * x := Nat.mul_le_mul_left _ h1
      omega
  · rintro ⟨rfl, rfl⟩; simp
theorem one_step {a x P : Nat} (hP : 1 < P) : (a + P * x = 1) ↔ a = 1 ∧ x = 0 := by
  constructor
  · intro h
    rcases Nat.eq_zero_or_pos x with h1 | h1
    · subst h1; simp at h; exact ⟨h, rfl⟩
    · have : P * 1 ≤ P * x := Nat.mul_le_mul_left _ h1
      omega
  · rintro ⟨rfl, rfl⟩; simp

set_option maxRecDepth 100000 in
set_option maxHeartbeats 1000000 in
theorem nat_cmpGeq (p lb q lc n c c' v u : Nat) (w : World) (hx : NatV w p lb n c v) (hy : NatV w q lc n c' u) (hn : n ≤ 1000) :
    Calls Try.prog 52 #[.pointer (some ⟨p, 0, none⟩), .pointer (some ⟨q, 0, none⟩)] w fun e w' =>
      ∃ r : Nat, e = .returned (.int .u64 (r : Int)) ∧ Ch (u ≤ v) r ∧ Keeps [] w w' := by
  have h1 := hx.hdr.cell
  have h2 := hy.hdr.cell
  have g1 := hx.le
  have g2 := hy.le
  have gv := hx.lt
  have gu := hy.lt
  obtain ⟨_, L, J, hL1, hL2, hL3, hL4, hL5⟩ := hx
  obtain ⟨_, M, I, hM1, hM2, hM3, hM4, hM5⟩ := hy
  have KV := Lib.hid gv; have KU := Lib.hid gu
  have KL2 := Lib.hid hL2; have KL5 := Lib.hid hL5; have KM2 := Lib.hid hM2; have KM5 := Lib.hid hM5
  clear hL2 hL3 hL5 hM2 hM3 hM5 gv gu
  go_enter Try.func52, Try.ntmps52
  go_wp2
  clear h1 h2
  go_loopw [8, 9] (fun c i wr => ∃ (k d s : Nat), k ≤ n ∧ i = .int .i64 k ∧ c = .int .u64 d ∧ d ≤ 1 ∧ Hid (s < BB ^ k) ∧ Hid (s + val (M.take k) = val (L.take k) + d * BB ^ k) ∧ Keeps [] w wr) (fun _ i _ => n - (intOf i).toNat)
  case atStart => exact ⟨0, 0, 0, Nat.zero_le _, rfl, rfl, by omega, by show _ < _; simp, by show _ = _; simp [val], Keeps.refl _ _⟩
  case round =>
    obtain ⟨k, d, s, hk, rfl, rfl, hd, hs, hv, hkp⟩ := hrel
    by_cases hlt : k < n
    · have c1 := (hL1.keeps hkp (by simp)).cell k (by have := KL2.out; simp; omega)
      have c2 := (hM1.keeps hkp (by simp)).cell k (by have := KM2.out; simp; omega)
      have b1 := hL4.get k (by have := KL2.out; omega)
      have b2 := hM4.get k (by have := KM2.out; omega)
      rw [List.getElem_append_left (by have := KL2.out; omega)] at c1
      rw [List.getElem_append_left (by have := KM2.out; omega)] at c2
      obtain ⟨xk, hxk⟩ : ∃ x, L[k]'(by have := KL2.out; omega) = x := ⟨_, rfl⟩
      obtain ⟨yk, hyk⟩ : ∃ x, M[k]'(by have := KM2.out; omega) = x := ⟨_, rfl⟩
      rw [hxk] at c1 b1
      rw [hyk] at c2 b2
      have Hxk := Lib.hid hxk; have Hyk := Lib.hid hyk; clear hxk hyk
      go_wp2_with fail
      refine wp_region_txt [0,0,0,1,0,0,0,1,0,2,0,0,0,0] (fun _ => True) (by kernel_rfl) (by kernel_rfl) trivial ?_
      simp only [withMarks]
      repeat (first
        | ((with_reducible refine txt_v (v := ?_) ?_ ?_); (any_goals ((with_reducible refine Yl.mk ?_ ?_); rfl; intro w hSw; (go_simp <;> (try go_bits) <;> (repeat (first | rw [if_pos (by omega)] | rw [if_neg (by omega)])) <;> with_reducible rfl))); try simp only [Act.put, List.setIfInBounds_toArray, List.set_cons_zero, List.set_cons_succ])
        | ((with_reducible refine txt_u ?_ ?_); rfl; try simp only [Act.put, List.setIfInBounds_toArray, List.set_cons_zero, List.set_cons_succ])
        | ((with_reducible refine txt_l (v := ?_) ?_ ?_); (any_goals ((with_reducible refine Reads.mk ?_ ?_); rfl; (go_simp <;> (try go_bits) <;> (repeat (first | rw [if_pos (by omega)] | rw [if_neg (by omega)])) <;> with_reducible rfl))); try simp only [Act.put, List.setIfInBounds_toArray, List.set_cons_zero, List.set_cons_succ])
        | ((with_reducible refine txt_e ?_ ?_); rfl; intro K hK; go_simp; (first | (refine hK _ _ trivial ?_) | ((first | (go_at_call 70; refine (sub_any _ _ _ b1 b2 hd _).mono ?_; rintro e w' ⟨s', d', rfl, hR, rfl⟩)); dsimp only; refine hK _ _ trivial ?_)); clear hK K; try simp only [Act.put, List.setIfInBounds_toArray, List.set_cons_zero, List.set_cons_succ]))
      refine txt_nil ?_
      go_wp2
      go_roundw
      case measure => simp [intOf]; omega
      case rel =>
        have hLn := KL2.out
        have hMn := KM2.out
        refine ⟨k + 1, d', s + BB ^ k * s', by omega, by go_num, rfl, hR.le, ?_, ?_, hkp.drew⟩
        · show _ < _
          have h3 : BB ^ k * (s' + 1) ≤ BB ^ k * BB := Nat.mul_le_mul_left _ hR.lt
          have := hs.out
          rw [Nat.pow_succ]
          rw [Nat.mul_add] at h3
          omega
        · show _ = _
          rw [val_take_succ L k (by omega), val_take_succ M k (by omega), Hxk.out, Hyk.out]
          have h1 := hv.out
          have h2 := congrArg (BB ^ k * ·) hR.eq
          simp only [Nat.mul_add] at h2
          have e : d' * BB ^ (k + 1) = BB ^ k * (d' * BB) := by
            rw [Nat.pow_succ, ← Nat.mul_assoc, Nat.mul_comm d', Nat.mul_assoc]
          rw [e]
          have e2 : d * BB ^ k = BB ^ k * d := Nat.mul_comm _ _
          rw [e2] at h1
          omega
    · have : k = n := by omega
      subst this
      have hch : Ch (d ≠ 0) d := ⟨hd, by omega⟩
      go_wp2_with fail
      refine (not_any d hch _).mono ?_
      rintro e w' ⟨r, rfl, hr, rfl⟩
      go_wp2
      go_ret
      refine ⟨r, rfl, hr.congr ?_, hkp⟩
      have h1 := hv.out
      have h2 := hs.out
      rw [List.take_of_length_le (by have := KL2.out; have := KM2.out; omega), List.take_of_length_le (by have := KL2.out; have := KM2.out; omega), KL5.out, KM5.out] at h1
      have d01 : d = 0 ∨ d = 1 := by omega
      rcases d01 with rfl | rfl <;> simp <;> omega

set_option maxRecDepth 100000 in
set_option maxHeartbeats 1000000 in
theorem nat_Equal (p lb q lc n c c' v u : Nat) (w : World) (hx : NatV w p lb n c v) (hy : NatV w q lc n c' u) (hn : n ≤ 1000) :
    Calls Try.prog 62 #[.pointer (some ⟨p, 0, none⟩), .pointer (some ⟨q, 0, none⟩)] w fun e w' =>
      ∃ r : Nat, e = .returned (.int .u64 (r : Int)) ∧ Ch (v = u) r ∧ Keeps [] w w' := by
  have h1 := hx.hdr.cell
  have h2 := hy.hdr.cell
  have g1 := hx.le
  have g2 := hy.le
  obtain ⟨_, L, J, hL1, hL2, hL3, hL4, hL5⟩ := hx
  obtain ⟨_, M, I, hM1, hM2, hM3, hM4, hM5⟩ := hy
  have KL2 := Lib.hid hL2; have KL5 := Lib.hid hL5; have KM2 := Lib.hid hM2; have KM5 := Lib.hid hM5
  clear hL2 hL3 hL5 hM2 hM3 hM5
  go_enter Try.func62, Try.ntmps62
  go_wp2
  clear h1 h2
  go_loopw [8, 9] (fun c i wr => ∃ (k d : Nat), k ≤ n ∧ i = .int .i64 k ∧ c = .int .u64 d ∧ Ch (val (L.take k) = val (M.take k)) d ∧ Keeps [] w wr) (fun _ i _ => n - (intOf i).toNat)
  case atStart => exact ⟨0, 1, Nat.zero_le _, rfl, rfl, by simpa using Ch.one, Keeps.refl _ _⟩
  case round =>
    obtain ⟨k, d, hk, rfl, rfl, hd, hkp⟩ := hrel
    by_cases hlt : k < n
    · have c1 := (hL1.keeps hkp (by simp)).cell k (by have := KL2.out; simp; omega)
      have c2 := (hM1.keeps hkp (by simp)).cell k (by have := KM2.out; simp; omega)
      have b1 := hL4.get k (by have := KL2.out; omega)
      have b2 := hM4.get k (by have := KM2.out; omega)
      rw [List.getElem_append_left (by have := KL2.out; omega)] at c1
      rw [List.getElem_append_left (by have := KM2.out; omega)] at c2
      obtain ⟨xk, hxk⟩ : ∃ x, L[k]'(by have := KL2.out; omega) = x := ⟨_, rfl⟩
      obtain ⟨yk, hyk⟩ : ∃ x, M[k]'(by have := KM2.out; omega) = x := ⟨_, rfl⟩
      rw [hxk] at c1 b1
      rw [hyk] at c2 b2
      have Hxk := Lib.hid hxk; have Hyk := Lib.hid hyk; clear hxk hyk
      go_wp2_with fail
      refine wp_region_txt [0,0,0,0,1,0,0,0,1,2,0,0] (fun _ => True) (by kernel_rfl) (by kernel_rfl) trivial ?_
      simp only [withMarks]
      repeat (first
        | ((with_reducible refine txt_v (v := ?_) ?_ ?_); (any_goals ((with_reducible refine Yl.mk ?_ ?_); rfl; intro w hSw; (go_simp <;> (try go_bits) <;> (repeat (first | rw [if_pos (by omega)] | rw [if_neg (by omega)])) <;> with_reducible rfl))); try simp only [Act.put, List.setIfInBounds_toArray, List.set_cons_zero, List.set_cons_succ])
        | ((with_reducible refine txt_u ?_ ?_); rfl; try simp only [Act.put, List.setIfInBounds_toArray, List.set_cons_zero, List.set_cons_succ])
        | ((with_reducible refine txt_l (v := ?_) ?_ ?_); (any_goals ((with_reducible refine Reads.mk ?_ ?_); rfl; (go_simp <;> (try go_bits) <;> (repeat (first | rw [if_pos (by omega)] | rw [if_neg (by omega)])) <;> with_reducible rfl))); try simp only [Act.put, List.setIfInBounds_toArray, List.set_cons_zero, List.set_cons_succ])
        | ((with_reducible refine txt_e ?_ ?_); rfl; intro K hK; go_simp; (first | (refine hK _ _ trivial ?_) | ((first | (go_at_call 76; refine (ctEq_any _ _ b1 b2 _).mono ?_; rintro e w' ⟨s', rfl, hR, rfl⟩; obtain ⟨r', hr', hR'⟩ := and_ch hd hR)); dsimp only; refine hK _ _ trivial ?_)); clear hK K; try simp only [Act.put, List.setIfInBounds_toArray, List.set_cons_zero, List.set_cons_succ]))
      refine txt_nil ?_
      go_wp2
      go_roundw
      case measure => simp [intOf]; omega
      case rel =>
        have hLn := KL2.out
        have hMn := KM2.out
        refine ⟨k + 1, r', by omega, by go_num, rfl, hR'.congr ?_, hkp.drew⟩
        rw [val_take_succ L k (by omega), val_take_succ M k (by omega), Hxk.out, Hyk.out]
        exact (eq_step (val_take_lt hL4 k (by omega)) (val_take_lt hM4 k (by omega))).symm
    · have : k = n := by omega
      subst this
      go_wp2
      go_ret
      refine ⟨d, rfl, hd.congr ?_, hkp⟩
      rw [List.take_of_length_le (by have := KL2.out; have := KM2.out; omega), List.take_of_length_le (by have := KL2.out; have := KM2.out; omega), KL5.out, KM5.out]

set_option maxRecDepth 100000 in
set_option maxHeartbeats 1000000 in
theorem nat_IsZero (p lb n c v : Nat) (w : World) (hx : NatV w p lb n c v) (hn : n ≤ 1000) :
    Calls Try.prog 58 #[.pointer (some ⟨p, 0, none⟩)] w fun e w' =>
      ∃ r : Nat, e = .returned (.int .u64 (r : Int)) ∧ Ch (v = 0) r ∧ w = w' := by
  have h1 := hx.hdr.cell
  have g1 := hx.le
  obtain ⟨_, L, J, hL1, hL2, hL3, hL4, hL5⟩ := hx
  have KL2 := Lib.hid hL2; have KL5 := Lib.hid hL5
  clear hL2 hL3 hL5
  go_enter Try.func58, Try.ntmps58
  go_wp2
  clear h1
  go_loop [5, 6] (fun c i => ∃ (k d : Nat), k ≤ n ∧ i = .int .i64 k ∧ c = .int .u64 d ∧ Ch (val (L.take k) = 0) d) (fun _ i => n - (intOf i).toNat)
  case atStart => exact ⟨0, 1, Nat.zero_le _, rfl, rfl, by simpa [val] using Ch.one⟩
  case round =>
    obtain ⟨k, d, hk, rfl, rfl, hd⟩ := hrel
    by_cases hlt : k < n
    · have c1 := hL1.cell k (by have := KL2.out; simp; omega)
      have b1 := hL4.get k (by have := KL2.out; omega)
      rw [List.getElem_append_left (by have := KL2.out; omega)] at c1
      obtain ⟨xk, hxk⟩ : ∃ x, L[k]'(by have := KL2.out; omega) = x := ⟨_, rfl⟩
      rw [hxk] at c1 b1
      have Hxk := Lib.hid hxk; clear hxk
      go_wp2_with fail
      refine (ctEq_z _ b1 _).mono ?_
      rintro e w' ⟨s', rfl, hR, rfl⟩
      obtain ⟨r', hr', hR'⟩ := and_ch hd hR
      go_wp2
      go_round
      case measure => simp [intOf]; omega
      case rel =>
        have hLn := KL2.out
        refine ⟨k + 1, r', by omega, by go_num, rfl, hR'.congr ?_⟩
        rw [val_take_succ L k (by omega), Hxk.out]
        exact (zero_step (pow_BB_pos k)).symm
    · have : k = n := by omega
      subst this
      go_wp2
      go_ret
      refine ⟨d, rfl, hd.congr ?_, rfl⟩
      rw [List.take_of_length_le (by have := KL2.out; omega), KL5.out]

end Go.Proofs.Ytnfjmngchapdnaa

/- bigmod: IsOne, IsOdd, assign, bitLen, BitLenVarTime, BitLen, Size. -/
namespace Go.Proofs.Ytnfjmngchapdnaa
open Go.RowKit

set_option maxRecDepth 100000 in
set_option maxHeartbeats 1000000 in
theorem nat_IsOne (p lb n c v : Nat) (w : World) (hx : NatV w p lb n c v) (hn : n ≤ 1000) :
    Calls Try.prog 60 #[.pointer (some ⟨p, 0, none⟩)] w fun e w' =>
      ∃ r : Nat, e = .returned (.int .u64 (r : Int)) ∧ Ch (v = 1) r ∧ w = w' := by
  have h1 := hx.hdr.cell
  have g1 := hx.le
  obtain ⟨_, L, J, hL1, hL2, hL3, hL4, hL5⟩ := hx
  cases hLc : L with
  | nil =>
    subst hLc
    have h0 : n = 0 := hL2.symm
    subst h0
    have hz : ((0 : Int) == 0) = true := rfl
    go_enter Try.func60, Try.ntmps60
    go_wp2
    go_ret
    refine ⟨0, rfl, Ch.zero.congr ?_, rfl⟩
    have e1 : v = 0 := hL5.symm
    subst e1
    simp
  | cons x0 L' =>
    have KL2 := Lib.hid hL2; have KL5 := Lib.hid hL5
    have HLc := Lib.hid hLc
    have c0 : w.cell? ⟨lb, 0, none⟩ = some (.int .u64 (x0 : Int)) := by
      have := hL1.cell 0 (by rw [hLc]; simp)
      simpa only [hLc, List.cons_append, List.getElem_cons_zero] using this
    have b0 : x0 < BB := hL4 x0 (by rw [hLc]; exact List.mem_cons_self ..)
    have hn0 : 0 < n := by rw [← hL2, hLc]; simp
    clear hL2 hL3 hL5 hLc
    have hz : ((n : Int) == 0) = false := by simp; omega
    go_enter Try.func60, Try.ntmps60
    go_wp2_with fail
    refine (ctEq_1 _ b0 _).mono ?_
    rintro e w' ⟨s0, rfl, hR0, rfl⟩
    go_wp2
    clear h1 c0 hz
    go_loop [5, 6] (fun c i => ∃ (k d : Nat), 1 ≤ k ∧ k ≤ n ∧ i = .int .i64 k ∧ c = .int .u64 d ∧ Ch (val (L.take k) = 1) d) (fun _ i => n - (intOf i).toNat)
    case atStart =>
      refine ⟨1, s0, by omega, by omega, rfl, rfl, hR0.congr ?_⟩
      rw [HLc.out]
      simp [val]
    case round =>
      obtain ⟨k, d, hk1, hk, rfl, rfl, hd⟩ := hrel
      by_cases hlt : k < n
      · have c1 := hL1.cell k (by have := KL2.out; simp; omega)
        have b1 := hL4.get k (by have := KL2.out; omega)
        rw [List.getElem_append_left (by have := KL2.out; omega)] at c1
        obtain ⟨xk, hxk⟩ : ∃ x, L[k]'(by have := KL2.out; omega) = x := ⟨_, rfl⟩
        rw [hxk] at c1 b1
        have Hxk := Lib.hid hxk; clear hxk
        go_wp2_with fail
        refine (ctEq_z _ b1 _).mono ?_
        rintro e w' ⟨s', rfl, hR, rfl⟩
        obtain ⟨r', hr', hR'⟩ := and_ch hd hR
        go_wp2
        go_round
        case measure => simp [intOf]; omega
        case rel =>
          have hLn := KL2.out
          refine ⟨k + 1, r', by omega, by omega, by go_num, rfl, hR'.congr ?_⟩
          rw [val_take_succ L k (by omega), Hxk.out]
          refine (one_step ?_).symm
          have h9 : BB ^ 1 ≤ BB ^ k := Nat.pow_le_pow_right BB_pos hk1
          rw [Nat.pow_one] at h9
          have : 1 < BB := by unfold BB; omega
          omega
      · have : k = n := by omega
        subst this
        go_wp2
        go_ret
        refine ⟨d, rfl, hd.congr ?_, rfl⟩
        rw [List.take_of_length_le (by have := KL2.out; omega), KL5.out]

theorem and_one (x : Nat) (h : x < BB) : Go.bits .and .u64 (x : Int) 1 = ((x % 2 : Nat) : Int) := by
  have := bits_and_u64_nat x 1 (by unfold BB at h; exact h) (by omega)
  rw [Nat.and_one_is_mod] at this
  exact this

set_option maxRecDepth 100000 in
set_option maxHeartbeats 1000000 in
theorem nat_IsOdd (p lb n c v : Nat) (w : World) (hx : NatV w p lb n c v) (hn : n ≤ 1000) :
    Calls Try.prog 48 #[.pointer (some ⟨p, 0, none⟩)] w fun e w' =>
      ∃ r : Nat, e = .returned (.int .u64 (r : Int)) ∧ Ch (v % 2 = 1) r ∧ w = w' := by
  have h1 := hx.hdr.cell
  have g1 := hx.le
  obtain ⟨_, L, J, hL1, hL2, hL3, hL4, hL5⟩ := hx
  cases L with
  | nil =>
    simp at hL2
    subst hL2
    have hz : ((0 : Int) == 0) = true := rfl
    go_enter Try.func48, Try.ntmps48
    go_wp2
    go_ret
    refine ⟨0, rfl, Ch.zero.congr ?_, rfl⟩
    have e1 : v = 0 := hL5.symm
    subst e1
    simp
  | cons x L =>
    have c0 := hL1.cell 0 (by simp)
    simp only [List.cons_append, List.getElem_cons_zero] at c0
    have b0 := hL4.head
    have e1 := and_one x b0
    have hc : Ch (v % 2 = 1) (x % 2) := ⟨by omega, by rw [← hL5]; simp only [val]; unfold BB; omega⟩
    have hn0 : 0 < n := by simp at hL2; omega
    have hz : ((n : Int) == 0) = false := by simp; omega
    clear hL1 hL2 hL3 hL4 hL5
    generalize x % 2 = r at *
    go_enter Try.func48, Try.ntmps48
    go_wp2
    go_ret
    exact ⟨r, rfl, hc, rfl⟩

set_option maxRecDepth 100000 in
set_option maxHeartbeats 1000000 in
theorem nat_assign {pr : Prop} (p lb q lc n c c' v u on : Nat) (w : World) (hx : NatV w p lb n c v) (hy : NatV w q lc n c' u) (hne : lb ≠ lc) (hon : Ch pr on) (hn : n ≤ 1000) :
    Calls Try.prog 75 #[.pointer (some ⟨p, 0, none⟩), .int .u64 (on : Int), .pointer (some ⟨q, 0, none⟩)] w fun e w' =>
      ∃ v' : Nat, e = .returned (.pointer (some ⟨p, 0, none⟩)) ∧ (pr → v' = u) ∧ (¬ pr → v' = v) ∧ NatV w' p lb n c v' ∧ Keeps [lb] w w' := by
  have h1 := hx.hdr.cell
  have h2 := hy.hdr.cell
  have g1 := hx.le
  have g2 := hy.le
  have hne' := hx.ne
  obtain ⟨hh, L, J, hL1, hL2, hL3, hL4, hL5⟩ := hx
  obtain ⟨hh', M, I, hM1, hM2, hM3, hM4, hM5⟩ := hy
  have HH := Lib.hid hh
  have KL2 := Lib.hid hL2; have KL3 := Lib.hid hL3; have KL5 := Lib.hid hL5; have KM2 := Lib.hid hM2; have KM5 := Lib.hid hM5
  clear hh hh' hL2 hL3 hL5 hM2 hM3 hM5
  go_enter Try.func75, Try.ntmps75
  go_wp2_with fail
  refine (ctMask_any on hon _).mono ?_
  rintro e w' ⟨m, rfl, hm, rfl⟩
  go_wp2
  clear h1 h2
  go_loopw [11] (fun i wr => ∃ (k : Nat) (X : List Nat), k ≤ n ∧ i = .int .i64 k ∧ Row wr lb (X ++ J) ∧ Hid (X.length = n) ∧ Lt X ∧ Hid (pr → X = M.take k ++ L.drop k) ∧ Hid (¬ pr → X = L) ∧ Keeps [lb] w wr) (fun i _ => n - (intOf i).toNat)
  case atStart => exact ⟨0, L, Nat.zero_le _, rfl, hL1, KL2, hL4, fun _ => by simp, fun _ => rfl, Keeps.refl _ _⟩
  case round =>
    obtain ⟨k, X, hk, rfl, hX, hXn, hXl, hv1, hv2, hkp⟩ := hrel
    by_cases hlt : k < n
    · have c1 := hX.cell k (by have := hXn.out; simp; omega)
      have c2 := (hM1.keeps hkp (by simpa using Ne.symm hne)).cell k (by have := KM2.out; simp; omega)
      have c3 := hX.free k
      have b1 := hXl.get k (by have := hXn.out; omega)
      have b2 := hM4.get k (by have := KM2.out; omega)
      rw [List.getElem_append_left (by have := hXn.out; omega)] at c1
      rw [List.getElem_append_left (by have := KM2.out; omega)] at c2
      obtain ⟨xk, hxk⟩ : ∃ x, X[k]'(by have := hXn.out; omega) = x := ⟨_, rfl⟩
      obtain ⟨yk, hyk⟩ : ∃ x, M[k]'(by have := KM2.out; omega) = x := ⟨_, rfl⟩
      rw [hxk] at c1 b1
      rw [hyk] at c2 b2
      have Hxk := Lib.hid hxk; have Hyk := Lib.hid hyk; clear hxk hyk
      obtain ⟨z, hz, hz1, hz2, hz3⟩ := pick_mask hm xk yk b1 b2
      have Hz2 := Lib.hid hz2; have Hz3 := Lib.hid hz3; clear hz2 hz3
      go_wp2_with fail
      refine wp_region_txt [0,0,0,1,0,0,0,0,1,0,0,0,1,0,0,0,0,2] (fun _ => True) (by kernel_rfl) (by kernel_rfl) trivial ?_
      simp only [withMarks]
      repeat (first
        | ((with_reducible refine txt_v (v := ?_) ?_ ?_); (any_goals ((with_reducible refine Yl.mk ?_ ?_); rfl; intro w hSw; (go_simp <;> (try go_bits) <;> (repeat (first | rw [if_pos (by omega)] | rw [if_neg (by omega)])) <;> with_reducible rfl))); try simp only [Act.put, List.setIfInBounds_toArray, List.set_cons_zero, List.set_cons_succ])
        | ((with_reducible refine txt_u ?_ ?_); rfl; try simp only [Act.put, List.setIfInBounds_toArray, List.set_cons_zero, List.set_cons_succ])
        | ((with_reducible refine txt_l (v := ?_) ?_ ?_); (any_goals ((with_reducible refine Reads.mk ?_ ?_); rfl; (go_simp <;> (try go_bits) <;> (repeat (first | rw [if_pos (by omega)] | rw [if_neg (by omega)])) <;> with_reducible rfl))); try simp only [Act.put, List.setIfInBounds_toArray, List.set_cons_zero, List.set_cons_succ])
        | ((with_reducible refine txt_e ?_ ?_); rfl; intro K hK; go_simp; (first | (refine hK _ _ trivial ?_) | ((first | fail); dsimp only; refine hK _ _ trivial ?_)); clear hK K; try simp only [Act.put, List.setIfInBounds_toArray, List.set_cons_zero, List.set_cons_succ]))
      refine txt_nil ?_
      go_wp2
      go_roundw
      case measure => simp [intOf]; omega
      case rel =>
        have hXn' := hXn.out
        have hLn := KL2.out
        have hMn := KM2.out
        refine ⟨k + 1, X.set k z, by omega, by go_num, ?_, by show _ = _; simp [hXn'], hXl.set _ _ hz1, fun hp => ?_, fun hp => ?_, (hkp.setCell (by simp) _).drew⟩
        · have := (hX.set k z).drew; rw [List.set_append_left _ _ (by omega)] at this; exact this
        · rw [Hz2.out hp, hv1.out hp]
          refine List.ext_getElem (by simp; omega) fun j h1 h2 => ?_
          rw [List.getElem_set]
          split
          · rename_i e; subst e
            rw [List.getElem_append_left (by simp; omega)]
            simp [Hyk.out]
          · by_cases hjk : j < k
            · rw [List.getElem_append_left (by simp; omega), List.getElem_append_left (by simp; omega)]
              simp
            · rw [List.getElem_append_right (by simp; omega), List.getElem_append_right (by simp; omega)]
              simp
              congr 1
              omega
        · have e := hv2.out hp
          have e2 := Hz3.out hp
          have e3 := Hxk.out
          subst e2
          rw [← e3]
          simp [e]
    · have : k = n := by omega
      subst this
      go_wp2
      go_ret
      have hLn := KL2.out
      have hMn := KM2.out
      refine ⟨val X, rfl, fun hp => ?_, fun hp => ?_, ⟨HH.out.keeps hkp (by simpa using hne'), X, J, hX, hXn.out, by have := hXn.out; have := KL3.out; omega, hXl, rfl⟩, hkp⟩
      · rw [hv1.out hp, List.take_of_length_le (by omega), List.drop_of_length_le (by omega), List.append_nil, KM5.out]
      · rw [hv2.out hp, KL5.out]

set_option maxRecDepth 100000 in
set_option maxHeartbeats 1000000 in
theorem bitLen_any (x : Nat) (hx : x < BB) (w : World) :
    Calls Try.prog 80 #[.int .u64 (x : Int)] w fun e w' => e = .returned (.int .i64 (blen x : Int)) ∧ w = w' := by
  have hb := blen_BB hx
  go_enter Try.func80, Try.ntmps80
  go_wp2
  go_loop [0, 3] (fun t l => ∃ (m j : Nat), t = .int .u64 (m : Int) ∧ l = .int .i64 (j : Int) ∧ Hid (j + blen m = blen x) ∧ m < 18446744073709551616) (fun t _ => (intOf t).toNat)
  case atStart => exact ⟨x, 0, rfl, rfl, by show _ = _; omega, by unfold BB at hx; exact hx⟩
  case round =>
    obtain ⟨m, j, rfl, rfl, hj, hm⟩ := hrel
    by_cases h0 : m = 0
    · subst h0
      have hz : ((0 : Int) == 0) = true := rfl
      go_wp2
      go_ret
      have := hj.out
      rw [blen_zero, Nat.add_zero] at this
      exact ⟨ret_int (by rw [this]), rfl⟩
    · have h1 := blen_half h0
      have H1 := Lib.hid h1
      have h2 := blen_pos h0
      have hj64 : j ≤ 64 := by have := hj.out; omega
      have hz : ((m : Int) == 0) = false := by simp; omega
      have hz' : ((m : Int) != 0) = true := by simp; omega
      clear h1
      go_wp2
      go_round
      case rel => exact ⟨m / 2, j + 1, by go_num, by go_num, by show _ = _; have := hj.out; have := H1.out; omega, by omega⟩
      case measure => simp [intOf]; omega

set_option maxRecDepth 100000 in
set_option maxHeartbeats 1000000 in
theorem nat_BitLen (p lb n c v : Nat) (w : World) (hx : NatV w p lb n c v) (hn : n ≤ 1000) :
    Calls Try.prog 64 #[.pointer (some ⟨p, 0, none⟩)] w fun e w' =>
      e = .returned (.int .i64 (blen v : Int)) ∧ w = w' := by
  have h1 := hx.hdr.cell
  have g1 := hx.le
  obtain ⟨_, L, J, hL1, hL2, hL3, hL4, hL5⟩ := hx
  have KL2 := Lib.hid hL2; have KL5 := Lib.hid hL5
  clear hL2 hL3 hL5
  go_enter Try.func64, Try.ntmps64
  go_wp2
  clear h1
  go_loop [5] (fun i => ∃ (k : Nat), k ≤ n ∧ i = .int .i64 ((k : Int) - 1) ∧ Hid (val (L.take k) = v)) (fun i => (intOf i + 1).toNat)
  case atStart => exact ⟨n, Nat.le_refl _, rfl, by show _ = _; rw [List.take_of_length_le (by have := KL2.out; omega), KL5.out]⟩
  case round =>
    obtain ⟨k, hk, rfl, hv⟩ := hrel
    cases k with
    | zero =>
      have hc : ¬ (0 : Int) ≤ ((0 : Nat) : Int) - 1 := by omega
      go_wp2
      go_ret
      have := hv.out
      simp [val] at this
      subst this
      exact ⟨rfl, rfl⟩
    | succ k =>
      have ek : (((k + 1 : Nat) : Int) - 1) = (k : Int) := by omega
      rw [ek]
      have hLn := KL2.out
      have c1 := hL1.cell k (by simp; omega)
      have b1 := hL4.get k (by omega)
      rw [List.getElem_append_left (by omega)] at c1
      obtain ⟨xk, hxk⟩ : ∃ x, L[k]'(by omega) = x := ⟨_, rfl⟩
      rw [hxk] at c1 b1
      have hs := val_take_succ L k (by omega)
      rw [hxk, hv.out] at hs
      have Hs := Lib.hid hs
      clear hxk hLn hs ek
      by_cases h0 : xk = 0
      · subst h0
        have hz : ((0 : Int) == 0) = true := rfl
        go_wp2
        go_round
        case rel => exact ⟨k, by omega, rfl, by show _ = _; have := Hs.out; simp at this; exact this.symm⟩
        case measure => simp [intOf]
      · have hz : ((xk : Int) == 0) = false := by simp; omega
        have hz' : ((xk : Int) != 0) = true := by simp; omega
        have b64 := blen_BB b1
        go_wp2_with fail
        refine (bitLen_any xk b1 _).mono ?_
        rintro e w' ⟨rfl, rfl⟩
        have hfin : k * 64 + blen xk = blen v := by
          have := Hs.out
          rw [this, BB_pow, blen_concat ?_ h0]
          · omega
          · rw [← BB_pow]; exact val_take_lt hL4 k (by have := KL2.out; omega)
        have Hfin := Lib.hid hfin
        clear hfin
        go_wp2
        go_ret
        exact ⟨ret_int (by have := Hfin.out; omega), rfl⟩

end Go.Proofs.Ytnfjmngchapdnaa
