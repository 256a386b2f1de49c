/- bigmod: add, sub of two Nats in place. -/
import Derived.Test.YtnfjmngchapdnaaBits
import Derived.Test.YtnfjmngchapdnaaMem
import Derived.Test.YtnfjmngchapdnaaTxt
import Derived.Outline
namespace Go.Proofs.Ytnfjmngchapdnaa
open Go.RowKit

set_option maxRecDepth 100000 in
set_option maxHeartbeats 1000000 in
theorem nat_add (p lb q lc n c c' v u : Nat) (w : World) (hx : NatV w p lb n c v) (hy : NatV w q lc n c' u) (hn : n ≤ 1000) :
    Calls Try.prog 83 #[.pointer (some ⟨p, 0, none⟩), .pointer (some ⟨q, 0, none⟩)] w fun e w' =>
      ∃ v' d : Nat, e = .returned (.int .u64 (d : Int)) ∧ d ≤ 1 ∧ v' + d * BB ^ n = v + u ∧ NatV w' p lb n c v' ∧ Keeps [lb] w w' := by
  have h1 := hx.hdr.cell
  have h2 := hy.hdr.cell
  have g1 := hx.le
  have g2 := hy.le
  have hne := hx.ne
  obtain ⟨hh, L, J, hL1, hL2, hL3, hL4, hL5⟩ := hx
  obtain ⟨hh', M, I, hM1, hM2, hM3, hM4, hM5⟩ := hy
  have HH := Lib.hid hh
  have KL2 := Lib.hid hL2; have KL3 := Lib.hid hL3; have KL5 := Lib.hid hL5; have KM2 := Lib.hid hM2; have KM5 := Lib.hid hM5
  clear hh hh' hL2 hL3 hL5 hM2 hM3 hM5
  go_enter Try.func83, Try.ntmps83
  go_wp2
  clear h1 h2
  go_loopw [4, 8] (fun c i wr => ∃ (k d : Nat) (X Y : List Nat), k ≤ n ∧ i = .int .i64 k ∧ c = .int .u64 d ∧ d ≤ 1 ∧ Row wr lb (X ++ J) ∧ Row wr lc (Y ++ I) ∧ Hid (X.length = n) ∧ Hid (Y.length = n) ∧ Lt X ∧ Lt Y ∧ Hid (Y.drop k = M.drop k) ∧ Hid (val X + d * BB ^ k = v + val (M.take k)) ∧ Keeps [lb] w wr) (fun _ i _ => n - (intOf i).toNat)
  case atStart => exact ⟨0, 0, L, M, Nat.zero_le _, rfl, rfl, by omega, hL1, hM1, KL2, KM2, hL4, hM4, rfl, by show _ = _; simp [KL5.out, val], Keeps.refl _ _⟩
  case round =>
    obtain ⟨k, d, X, Y, hk, rfl, rfl, hd, hX, hY, hXn, hYn, hXl, hYl, hdr, hv, hkp⟩ := hrel
    by_cases hlt : k < n
    · have c1 := hX.cell k (by have := hXn.out; simp; omega)
      have c2 := hY.cell k (by have := hYn.out; simp; omega)
      have c3 := hX.free k
      have b1 := hXl.get k (by have := hXn.out; omega)
      have b2 := hYl.get k (by have := hYn.out; omega)
      rw [List.getElem_append_left (by have := hXn.out; omega)] at c1
      rw [List.getElem_append_left (by have := hYn.out; omega)] at c2
      obtain ⟨xk, hxk⟩ : ∃ x, X[k]'(by have := hXn.out; omega) = x := ⟨_, rfl⟩
      obtain ⟨yk, hyk⟩ : ∃ x, Y[k]'(by have := hYn.out; omega) = x := ⟨_, rfl⟩
      rw [hxk] at c1 b1
      rw [hyk] at c2 b2
      have Hxk := Lib.hid hxk; have Hyk := Lib.hid hyk; clear hxk hyk
      go_wp2_with fail
      refine wp_region_txt [0,0,0,0,0,1,0,0,0,1,0,2,0,0,0,0,2,0] (fun _ => True) (by kernel_rfl) (by kernel_rfl) trivial ?_
      simp only [withMarks]
      repeat (first
        | ((with_reducible refine txt_v (v := ?_) ?_ ?_); (any_goals ((with_reducible refine Yl.mk ?_ ?_); rfl; intro w hSw; (go_simp <;> (try go_bits) <;> (try rw [if_pos (by omega)]) <;> with_reducible rfl))); try simp only [Act.put, List.setIfInBounds_toArray, List.set_cons_zero, List.set_cons_succ])
        | ((with_reducible refine txt_u ?_ ?_); rfl; try simp only [Act.put, List.setIfInBounds_toArray, List.set_cons_zero, List.set_cons_succ])
        | ((with_reducible refine txt_l (v := ?_) ?_ ?_); (any_goals ((with_reducible refine Reads.mk ?_ ?_); rfl; (go_simp <;> (try go_bits) <;> (try rw [if_pos (by omega)]) <;> with_reducible rfl))); try simp only [Act.put, List.setIfInBounds_toArray, List.set_cons_zero, List.set_cons_succ])
        | ((with_reducible refine txt_e ?_ ?_); rfl; intro K hK; go_simp; (first | (refine hK _ _ trivial ?_) | ((first | (go_at_call 90; refine (add_any _ _ _ b1 b2 hd _).mono ?_; rintro e w' ⟨s, d', rfl, hR, rfl⟩)); dsimp only; refine hK _ _ trivial ?_)); clear hK K; try simp only [Act.put, List.setIfInBounds_toArray, List.set_cons_zero, List.set_cons_succ]))
      refine txt_nil ?_
      go_wp2
      go_roundw
      case measure => simp [intOf]; omega
      case rel =>
        have hXn' := hXn.out
        have hYn' := hYn.out
        refine ⟨k + 1, d', X.set k s, if lc = lb then X.set k s else Y, by omega, by go_num, rfl, hR.le, ?_, ?_, by show _ = _; simp [hXn'], ?_, hXl.set _ _ hR.lt, ?_, ?_, ?_, (hkp.setCell (by simp) _).drew⟩
        · have := (hX.set k s).drew; rw [List.set_append_left _ _ (by omega)] at this; exact this
        · split
          · rename_i e; subst e
            have e1 := hX.inj hY
            have e2 := List.append_inj e1 (by omega)
            have := (hY.set k s).drew; rw [List.set_append_left _ _ (by omega)] at this; rw [e2.1]; exact this
          · rename_i e; exact (hY.other (a := ⟨lb, k, none⟩) e _).drew
        · show _ = _; split <;> simp [hXn', hYn']
        · split
          · exact hXl.set _ _ hR.lt
          · exact hYl
        · show _ = _
          have h0 : Y.drop (k + 1) = M.drop (k + 1) := by
            have := congrArg (List.drop 1) hdr.out
            simpa [List.drop_drop, Nat.add_comm] using this
          split
          · rename_i e; subst e
            have e1 := hX.inj hY
            have e2 := List.append_inj e1 (by omega)
            rw [List.drop_set_of_lt (by omega), e2.1]; exact h0
          · exact h0
        · show _ = _
          have hMn := KM2.out
          have hy0 : M[k]'(by omega) = yk := by
            have := congrArg (fun l => l[0]?) hdr.out
            simp [List.getElem?_drop] at this
            rw [List.getElem?_eq_getElem (by omega), List.getElem?_eq_getElem (by omega)] at this
            simp at this
            rw [← this]; exact Hyk.out
          rw [val_take_succ M k (by omega)]
          refine add_round (L := X) (M := M) (d := d) (by omega) (by omega) hv.out ?_
          rw [Hxk.out, hy0]; exact hR
    · have : k = n := by omega
      subst this
      go_wp2
      go_ret
      have hMn := KM2.out
      refine ⟨val X, d, rfl, hd, ?_, ⟨HH.out.keeps hkp (by simpa using hne), X, J, hX, hXn.out, by have := hXn.out; have := KL3.out; have := KL2.out; omega, hXl, rfl⟩, hkp⟩
      have := hv.out
      rw [List.take_of_length_le (by omega), KM5.out] at this
      exact this

set_option maxRecDepth 100000 in
set_option maxHeartbeats 1000000 in
theorem nat_sub (p lb q lc n c c' v u : Nat) (w : World) (hx : NatV w p lb n c v) (hy : NatV w q lc n c' u) (hn : n ≤ 1000) :
    Calls Try.prog 82 #[.pointer (some ⟨p, 0, none⟩), .pointer (some ⟨q, 0, none⟩)] w fun e w' =>
      ∃ v' d : Nat, e = .returned (.int .u64 (d : Int)) ∧ d ≤ 1 ∧ v' + u = v + d * BB ^ n ∧ NatV w' p lb n c v' ∧ Keeps [lb] w w' := by
  have h1 := hx.hdr.cell
  have h2 := hy.hdr.cell
  have g1 := hx.le
  have g2 := hy.le
  have hne := hx.ne
  obtain ⟨hh, L, J, hL1, hL2, hL3, hL4, hL5⟩ := hx
  obtain ⟨hh', M, I, hM1, hM2, hM3, hM4, hM5⟩ := hy
  have HH := Lib.hid hh
  have KL2 := Lib.hid hL2; have KL3 := Lib.hid hL3; have KL5 := Lib.hid hL5; have KM2 := Lib.hid hM2; have KM5 := Lib.hid hM5
  clear hh hh' hL2 hL3 hL5 hM2 hM3 hM5
  go_enter Try.func82, Try.ntmps82
  go_wp2
  clear h1 h2
  go_loopw [4, 8] (fun c i wr => ∃ (k d : Nat) (X Y : List Nat), k ≤ n ∧ i = .int .i64 k ∧ c = .int .u64 d ∧ d ≤ 1 ∧ Row wr lb (X ++ J) ∧ Row wr lc (Y ++ I) ∧ Hid (X.length = n) ∧ Hid (Y.length = n) ∧ Lt X ∧ Lt Y ∧ Hid (Y.drop k = M.drop k) ∧ Hid (val X + val (M.take k) = v + d * BB ^ k) ∧ Keeps [lb] w wr) (fun _ i _ => n - (intOf i).toNat)
  case atStart => exact ⟨0, 0, L, M, Nat.zero_le _, rfl, rfl, by omega, hL1, hM1, KL2, KM2, hL4, hM4, rfl, by show _ = _; simp [KL5.out, val], Keeps.refl _ _⟩
  case round =>
    obtain ⟨k, d, X, Y, hk, rfl, rfl, hd, hX, hY, hXn, hYn, hXl, hYl, hdr, hv, hkp⟩ := hrel
    by_cases hlt : k < n
    · have c1 := hX.cell k (by have := hXn.out; simp; omega)
      have c2 := hY.cell k (by have := hYn.out; simp; omega)
      have c3 := hX.free k
      have b1 := hXl.get k (by have := hXn.out; omega)
      have b2 := hYl.get k (by have := hYn.out; omega)
      rw [List.getElem_append_left (by have := hXn.out; omega)] at c1
      rw [List.getElem_append_left (by have := hYn.out; omega)] at c2
      obtain ⟨xk, hxk⟩ : ∃ x, X[k]'(by have := hXn.out; omega) = x := ⟨_, rfl⟩
      obtain ⟨yk, hyk⟩ : ∃ x, Y[k]'(by have := hYn.out; omega) = x := ⟨_, rfl⟩
      rw [hxk] at c1 b1
      rw [hyk] at c2 b2
      have Hxk := Lib.hid hxk; have Hyk := Lib.hid hyk; clear hxk hyk
      go_wp2_with fail
      refine wp_region_txt [0,0,0,0,0,1,0,0,0,1,0,2,0,0,0,0,2,0] (fun _ => True) (by kernel_rfl) (by kernel_rfl) trivial ?_
      simp only [withMarks]
      repeat (first
        | ((with_reducible refine txt_v (v := ?_) ?_ ?_); (any_goals ((with_reducible refine Yl.mk ?_ ?_); rfl; intro w hSw; (go_simp <;> (try go_bits) <;> (try rw [if_pos (by omega)]) <;> with_reducible rfl))); try simp only [Act.put, List.setIfInBounds_toArray, List.set_cons_zero, List.set_cons_succ])
        | ((with_reducible refine txt_u ?_ ?_); rfl; try simp only [Act.put, List.setIfInBounds_toArray, List.set_cons_zero, List.set_cons_succ])
        | ((with_reducible refine txt_l (v := ?_) ?_ ?_); (any_goals ((with_reducible refine Reads.mk ?_ ?_); rfl; (go_simp <;> (try go_bits) <;> (try rw [if_pos (by omega)]) <;> with_reducible rfl))); try simp only [Act.put, List.setIfInBounds_toArray, List.set_cons_zero, List.set_cons_succ])
        | ((with_reducible refine txt_e ?_ ?_); rfl; intro K hK; go_simp; (first | (refine hK _ _ trivial ?_) | ((first | (go_at_call 70; refine (sub_any _ _ _ b1 b2 hd _).mono ?_; rintro e w' ⟨s, d', rfl, hR, rfl⟩)); dsimp only; refine hK _ _ trivial ?_)); clear hK K; try simp only [Act.put, List.setIfInBounds_toArray, List.set_cons_zero, List.set_cons_succ]))
      refine txt_nil ?_
      go_wp2
      go_roundw
      case measure => simp [intOf]; omega
      case rel =>
        have hXn' := hXn.out
        have hYn' := hYn.out
        refine ⟨k + 1, d', X.set k s, if lc = lb then X.set k s else Y, by omega, by go_num, rfl, hR.le, ?_, ?_, by show _ = _; simp [hXn'], ?_, hXl.set _ _ hR.lt, ?_, ?_, ?_, (hkp.setCell (by simp) _).drew⟩
        · have := (hX.set k s).drew; rw [List.set_append_left _ _ (by omega)] at this; exact this
        · split
          · rename_i e; subst e
            have e1 := hX.inj hY
            have e2 := List.append_inj e1 (by omega)
            have := (hY.set k s).drew; rw [List.set_append_left _ _ (by omega)] at this; rw [e2.1]; exact this
          · rename_i e; exact (hY.other (a := ⟨lb, k, none⟩) e _).drew
        · show _ = _; split <;> simp [hXn', hYn']
        · split
          · exact hXl.set _ _ hR.lt
          · exact hYl
        · show _ = _
          have h0 : Y.drop (k + 1) = M.drop (k + 1) := by
            have := congrArg (List.drop 1) hdr.out
            simpa [List.drop_drop, Nat.add_comm] using this
          split
          · rename_i e; subst e
            have e1 := hX.inj hY
            have e2 := List.append_inj e1 (by omega)
            rw [List.drop_set_of_lt (by omega), e2.1]; exact h0
          · exact h0
        · show _ = _
          have hMn := KM2.out
          have hy0 : M[k]'(by omega) = yk := by
            have := congrArg (fun l => l[0]?) hdr.out
            simp [List.getElem?_drop] at this
            rw [List.getElem?_eq_getElem (by omega), List.getElem?_eq_getElem (by omega)] at this
            simp at this
            rw [← this]; exact Hyk.out
          rw [val_take_succ M k (by omega)]
          refine sub_round (L := X) (M := M) (d := d) (by omega) (by omega) hv.out ?_
          rw [Hxk.out, hy0]; exact hR
    · have : k = n := by omega
      subst this
      go_wp2
      go_ret
      have hMn := KM2.out
      refine ⟨val X, d, rfl, hd, ?_, ⟨HH.out.keeps hkp (by simpa using hne), X, J, hX, hXn.out, by have := hXn.out; have := KL3.out; have := KL2.out; omega, hXl, rfl⟩, hkp⟩
      have := hv.out
      rw [List.take_of_length_le (by omega), KM5.out] at this
      exact this

end Go.Proofs.Ytnfjmngchapdnaa
