import Derived.Test.YtnfjmngchapdnaaGreatDoorMMath
import Derived.Test.YtnfjmngchapdnaaGreatDoorTxt
import Derived.Outline
import Derived.Test.YtnfjmngchapdnaaGreatDoorMSetBytes
/- bigmod: add, sub of two Nats in place. -/
namespace Go.Proofs.YtnfjmngchapdnaaGreatDoor
open Go.RowKit

set_option maxRecDepth 100000 in
set_option maxHeartbeats 1000000 in
theorem nat_add (p lb q lc n c c' v u : Nat) (w : World) (hx : NatV w p lb n c v) (hy : NatV w q lc n c' u) (hn : n ≤ 1000) :
    Calls Tryz.prog 103 #[.pointer (some ⟨p, 0, none⟩), .pointer (some ⟨q, 0, none⟩)] w fun e w' =>
      ∃ v' d : Nat, e = .returned (.int .u64 (d : Int)) ∧ d ≤ 1 ∧ v' + d * BB ^ n = v + u ∧ NatV w' p lb n c v' ∧ Keeps [lb] w w' := by
  have h1 := hx.hdr.cell
  have h2 := hy.hdr.cell
  have g1 := hx.le
  have g2 := hy.le
  have hne := hx.ne
  obtain ⟨hh, L, J, hL1, hL2, hL3, hL4, hL5⟩ := hx
  obtain ⟨hh', M, I, hM1, hM2, hM3, hM4, hM5⟩ := hy
  have HH := Lib.hid hh
  have KL2 := Lib.hid hL2; have KL3 := Lib.hid hL3; have KL5 := Lib.hid hL5; have KM2 := Lib.hid hM2; have KM5 := Lib.hid hM5
  clear hh hh' hL2 hL3 hL5 hM2 hM3 hM5
  go_enter Tryz.func103, Tryz.ntmps103
  go_wp2
  clear h1 h2
  go_loopw [4, 8] (fun c i wr => ∃ (k d : Nat) (X Y : List Nat), k ≤ n ∧ i = .int .i64 k ∧ c = .int .u64 d ∧ d ≤ 1 ∧ Row wr lb (X ++ J) ∧ Row wr lc (Y ++ I) ∧ Hid (X.length = n) ∧ Hid (Y.length = n) ∧ Lt X ∧ Lt Y ∧ Hid (Y.drop k = M.drop k) ∧ Hid (val X + d * BB ^ k = v + val (M.take k)) ∧ Keeps [lb] w wr) (fun _ i _ => n - (intOf i).toNat)
  case atStart => exact ⟨0, 0, L, M, Nat.zero_le _, rfl, rfl, by omega, hL1, hM1, KL2, KM2, hL4, hM4, rfl, by show _ = _; simp [KL5.out, val], Keeps.refl _ _⟩
  case round =>
    obtain ⟨k, d, X, Y, hk, rfl, rfl, hd, hX, hY, hXn, hYn, hXl, hYl, hdr, hv, hkp⟩ := hrel
    by_cases hlt : k < n
    · have c1 := hX.cell k (by have := hXn.out; simp; omega)
      have c2 := hY.cell k (by have := hYn.out; simp; omega)
      have c3 := hX.free k
      have b1 := hXl.get k (by have := hXn.out; omega)
      have b2 := hYl.get k (by have := hYn.out; omega)
      rw [List.getElem_append_left (by have := hXn.out; omega)] at c1
      rw [List.getElem_append_left (by have := hYn.out; omega)] at c2
      obtain ⟨xk, hxk⟩ : ∃ x, X[k]'(by have := hXn.out; omega) = x := ⟨_, rfl⟩
      obtain ⟨yk, hyk⟩ : ∃ x, Y[k]'(by have := hYn.out; omega) = x := ⟨_, rfl⟩
      rw [hxk] at c1 b1
      rw [hyk] at c2 b2
      have Hxk := Lib.hid hxk; have Hyk := Lib.hid hyk; clear hxk hyk
      go_wp2_with fail
      refine wp_region_txt [0,0,0,0,0,1,0,0,0,1,0,2,0,0,0,0,2,0] (fun _ => True) (by kernel_rfl) (by kernel_rfl) trivial ?_
      simp only [withMarks]
      repeat (first
        | ((with_reducible refine txt_v (v := ?_) ?_ ?_); (any_goals ((with_reducible refine Yl.mk ?_ ?_); rfl; intro w hSw; (go_simp <;> (try go_bits) <;> (repeat (first | rw [if_pos (by omega)] | rw [if_neg (by omega)])) <;> with_reducible rfl))); try simp only [Act.put, List.setIfInBounds_toArray, List.set_cons_zero, List.set_cons_succ])
        | ((with_reducible refine txt_u ?_ ?_); rfl; try simp only [Act.put, List.setIfInBounds_toArray, List.set_cons_zero, List.set_cons_succ])
        | ((with_reducible refine txt_l (v := ?_) ?_ ?_); (any_goals ((with_reducible refine Reads.mk ?_ ?_); rfl; (go_simp <;> (try go_bits) <;> (repeat (first | rw [if_pos (by omega)] | rw [if_neg (by omega)])) <;> with_reducible rfl))); try simp only [Act.put, List.setIfInBounds_toArray, List.set_cons_zero, List.set_cons_succ])
        | ((with_reducible refine txt_e ?_ ?_); rfl; intro K hK; go_simp; (first | (refine hK _ _ trivial ?_) | ((first | (go_at_call 111; refine (add_any _ _ _ b1 b2 hd _).mono ?_; rintro e w' ⟨s, d', rfl, hR, rfl⟩)); dsimp only; refine hK _ _ trivial ?_)); clear hK K; try simp only [Act.put, List.setIfInBounds_toArray, List.set_cons_zero, List.set_cons_succ]))
      refine txt_nil ?_
      go_wp2
      go_roundw
      case measure => simp [intOf]; omega
      case rel =>
        have hXn' := hXn.out
        have hYn' := hYn.out
        refine ⟨k + 1, d', X.set k s, if lc = lb then X.set k s else Y, by omega, by go_num, rfl, hR.le, ?_, ?_, by show _ = _; simp [hXn'], ?_, hXl.set _ _ hR.lt, ?_, ?_, ?_, (hkp.setCell (by simp) _).drew⟩
        · have := (hX.set k s).drew; rw [List.set_append_left _ _ (by omega)] at this; exact this
        · split
          · rename_i e; subst e
            have e1 := hX.inj hY
            have e2 := List.append_inj e1 (by omega)
            have := (hY.set k s).drew; rw [List.set_append_left _ _ (by omega)] at this; rw [e2.1]; exact this
          · rename_i e; exact (hY.other (a := ⟨lb, k, none⟩) e _).drew
        · show _ = _; split <;> simp [hXn', hYn']
        · split
          · exact hXl.set _ _ hR.lt
          · exact hYl
        · show _ = _
          have h0 : Y.drop (k + 1) = M.drop (k + 1) := by
            have := congrArg (List.drop 1) hdr.out
            simpa [List.drop_drop, Nat.add_comm] using this
          split
          · rename_i e; subst e
            have e1 := hX.inj hY
            have e2 := List.append_inj e1 (by omega)
            rw [List.drop_set_of_lt (by omega), e2.1]; exact h0
          · exact h0
        · show _ = _
          have hMn := KM2.out
          have hy0 : M[k]'(by omega) = yk := by
            have := congrArg (fun l => l[0]?) hdr.out
            simp [List.getElem?_drop] at this
            rw [List.getElem?_eq_getElem (by omega), List.getElem?_eq_getElem (by omega)] at this
            simp at this
            rw [← this]; exact Hyk.out
          rw [val_take_succ M k (by omega)]
          refine add_round (L := X) (M := M) (d := d) (by omega) (by omega) hv.out ?_
          rw [Hxk.out, hy0]; exact hR
    · have : k = n := by omega
      subst this
      go_wp2
      go_ret
      have hMn := KM2.out
      refine ⟨val X, d, rfl, hd, ?_, ⟨HH.out.keeps hkp (by simpa using hne), X, J, hX, hXn.out, by have := hXn.out; have := KL3.out; have := KL2.out; omega, hXl, rfl⟩, hkp⟩
      have := hv.out
      rw [List.take_of_length_le (by omega), KM5.out] at this
      exact this

set_option maxRecDepth 100000 in
set_option maxHeartbeats 1000000 in
theorem nat_sub (p lb q lc n c c' v u : Nat) (w : World) (hx : NatV w p lb n c v) (hy : NatV w q lc n c' u) (hn : n ≤ 1000) :
    Calls Tryz.prog 102 #[.pointer (some ⟨p, 0, none⟩), .pointer (some ⟨q, 0, none⟩)] w fun e w' =>
      ∃ v' d : Nat, e = .returned (.int .u64 (d : Int)) ∧ d ≤ 1 ∧ v' + u = v + d * BB ^ n ∧ NatV w' p lb n c v' ∧ Keeps [lb] w w' := by
  have h1 := hx.hdr.cell
  have h2 := hy.hdr.cell
  have g1 := hx.le
  have g2 := hy.le
  have hne := hx.ne
  obtain ⟨hh, L, J, hL1, hL2, hL3, hL4, hL5⟩ := hx
  obtain ⟨hh', M, I, hM1, hM2, hM3, hM4, hM5⟩ := hy
  have HH := Lib.hid hh
  have KL2 := Lib.hid hL2; have KL3 := Lib.hid hL3; have KL5 := Lib.hid hL5; have KM2 := Lib.hid hM2; have KM5 := Lib.hid hM5
  clear hh hh' hL2 hL3 hL5 hM2 hM3 hM5
  go_enter Tryz.func102, Tryz.ntmps102
  go_wp2
  clear h1 h2
  go_loopw [4, 8] (fun c i wr => ∃ (k d : Nat) (X Y : List Nat), k ≤ n ∧ i = .int .i64 k ∧ c = .int .u64 d ∧ d ≤ 1 ∧ Row wr lb (X ++ J) ∧ Row wr lc (Y ++ I) ∧ Hid (X.length = n) ∧ Hid (Y.length = n) ∧ Lt X ∧ Lt Y ∧ Hid (Y.drop k = M.drop k) ∧ Hid (val X + val (M.take k) = v + d * BB ^ k) ∧ Keeps [lb] w wr) (fun _ i _ => n - (intOf i).toNat)
  case atStart => exact ⟨0, 0, L, M, Nat.zero_le _, rfl, rfl, by omega, hL1, hM1, KL2, KM2, hL4, hM4, rfl, by show _ = _; simp [KL5.out, val], Keeps.refl _ _⟩
  case round =>
    obtain ⟨k, d, X, Y, hk, rfl, rfl, hd, hX, hY, hXn, hYn, hXl, hYl, hdr, hv, hkp⟩ := hrel
    by_cases hlt : k < n
    · have c1 := hX.cell k (by have := hXn.out; simp; omega)
      have c2 := hY.cell k (by have := hYn.out; simp; omega)
      have c3 := hX.free k
      have b1 := hXl.get k (by have := hXn.out; omega)
      have b2 := hYl.get k (by have := hYn.out; omega)
      rw [List.getElem_append_left (by have := hXn.out; omega)] at c1
      rw [List.getElem_append_left (by have := hYn.out; omega)] at c2
      obtain ⟨xk, hxk⟩ : ∃ x, X[k]'(by have := hXn.out; omega) = x := ⟨_, rfl⟩
      obtain ⟨yk, hyk⟩ : ∃ x, Y[k]'(by have := hYn.out; omega) = x := ⟨_, rfl⟩
      rw [hxk] at c1 b1
      rw [hyk] at c2 b2
      have Hxk := Lib.hid hxk; have Hyk := Lib.hid hyk; clear hxk hyk
      go_wp2_with fail
      refine wp_region_txt [0,0,0,0,0,1,0,0,0,1,0,2,0,0,0,0,2,0] (fun _ => True) (by kernel_rfl) (by kernel_rfl) trivial ?_
      simp only [withMarks]
      repeat (first
        | ((with_reducible refine txt_v (v := ?_) ?_ ?_); (any_goals ((with_reducible refine Yl.mk ?_ ?_); rfl; intro w hSw; (go_simp <;> (try go_bits) <;> (repeat (first | rw [if_pos (by omega)] | rw [if_neg (by omega)])) <;> with_reducible rfl))); try simp only [Act.put, List.setIfInBounds_toArray, List.set_cons_zero, List.set_cons_succ])
        | ((with_reducible refine txt_u ?_ ?_); rfl; try simp only [Act.put, List.setIfInBounds_toArray, List.set_cons_zero, List.set_cons_succ])
        | ((with_reducible refine txt_l (v := ?_) ?_ ?_); (any_goals ((with_reducible refine Reads.mk ?_ ?_); rfl; (go_simp <;> (try go_bits) <;> (repeat (first | rw [if_pos (by omega)] | rw [if_neg (by omega)])) <;> with_reducible rfl))); try simp only [Act.put, List.setIfInBounds_toArray, List.set_cons_zero, List.set_cons_succ])
        | ((with_reducible refine txt_e ?_ ?_); rfl; intro K hK; go_simp; (first | (refine hK _ _ trivial ?_) | ((first | (go_at_call 88; refine (sub_any _ _ _ b1 b2 hd _).mono ?_; rintro e w' ⟨s, d', rfl, hR, rfl⟩)); dsimp only; refine hK _ _ trivial ?_)); clear hK K; try simp only [Act.put, List.setIfInBounds_toArray, List.set_cons_zero, List.set_cons_succ]))
      refine txt_nil ?_
      go_wp2
      go_roundw
      case measure => simp [intOf]; omega
      case rel =>
        have hXn' := hXn.out
        have hYn' := hYn.out
        refine ⟨k + 1, d', X.set k s, if lc = lb then X.set k s else Y, by omega, by go_num, rfl, hR.le, ?_, ?_, by show _ = _; simp [hXn'], ?_, hXl.set _ _ hR.lt, ?_, ?_, ?_, (hkp.setCell (by simp) _).drew⟩
        · have := (hX.set k s).drew; rw [List.set_append_left _ _ (by omega)] at this; exact this
        · split
          · rename_i e; subst e
            have e1 := hX.inj hY
            have e2 := List.append_inj e1 (by omega)
            have := (hY.set k s).drew; rw [List.set_append_left _ _ (by omega)] at this; rw [e2.1]; exact this
          · rename_i e; exact (hY.other (a := ⟨lb, k, none⟩) e _).drew
        · show _ = _; split <;> simp [hXn', hYn']
        · split
          · exact hXl.set _ _ hR.lt
          · exact hYl
        · show _ = _
          have h0 : Y.drop (k + 1) = M.drop (k + 1) := by
            have := congrArg (List.drop 1) hdr.out
            simpa [List.drop_drop, Nat.add_comm] using this
          split
          · rename_i e; subst e
            have e1 := hX.inj hY
            have e2 := List.append_inj e1 (by omega)
            rw [List.drop_set_of_lt (by omega), e2.1]; exact h0
          · exact h0
        · show _ = _
          have hMn := KM2.out
          have hy0 : M[k]'(by omega) = yk := by
            have := congrArg (fun l => l[0]?) hdr.out
            simp [List.getElem?_drop] at this
            rw [List.getElem?_eq_getElem (by omega), List.getElem?_eq_getElem (by omega)] at this
            simp at this
            rw [← this]; exact Hyk.out
          rw [val_take_succ M k (by omega)]
          refine sub_round (L := X) (M := M) (d := d) (by omega) (by omega) hv.out ?_
          rw [Hxk.out, hy0]; exact hR
    · have : k = n := by omega
      subst this
      go_wp2
      go_ret
      have hMn := KM2.out
      refine ⟨val X, d, rfl, hd, ?_, ⟨HH.out.keeps hkp (by simpa using hne), X, J, hX, hXn.out, by have := hXn.out; have := KL3.out; have := KL2.out; omega, hXl, rfl⟩, hkp⟩
      have := hv.out
      rw [List.take_of_length_le (by omega), KM5.out] at this
      exact this

end Go.Proofs.YtnfjmngchapdnaaGreatDoor

/- bigmod: a Modulus; maybeSubtractModulus, Add, Sub, ExpandFor, resetFor, SubOne, Nat, BitLen, Size. -/
namespace Go.Proofs.YtnfjmngchapdnaaGreatDoor
open Go.RowKit

def MHdr (w : World) (pm pn : Nat) (odd : Bool) (m0 : Nat) (rv : Value) : Prop :=
  w.heap[pm]? = some (.cells #[.pointer (some ⟨pn, 0, none⟩), .bool odd, .int .u64 (m0 : Int), rv] 118 (0, 0))
theorem MHdr.lt {w : World} {pm pn m0 : Nat} {odd : Bool} {rv : Value} (h : MHdr w pm pn odd m0 rv) : pm < w.heap.size := lt_of_block h
theorem MHdr.c0 {w : World} {pm pn m0 : Nat} {odd : Bool} {rv : Value} (h : MHdr w pm pn odd m0 rv) : w.cell? ⟨pm, 0, none⟩ = some (.pointer (some ⟨pn, 0, none⟩)) := by
  unfold MHdr at h; simp [World.cell?, h]
theorem MHdr.c1 {w : World} {pm pn m0 : Nat} {odd : Bool} {rv : Value} (h : MHdr w pm pn odd m0 rv) : w.cell? ⟨pm, 1, none⟩ = some (.bool odd) := by
  unfold MHdr at h; simp [World.cell?, h]
theorem MHdr.c2 {w : World} {pm pn m0 : Nat} {odd : Bool} {rv : Value} (h : MHdr w pm pn odd m0 rv) : w.cell? ⟨pm, 2, none⟩ = some (.int .u64 (m0 : Int)) := by
  unfold MHdr at h; simp [World.cell?, h]
theorem MHdr.c3 {w : World} {pm pn m0 : Nat} {odd : Bool} {rv : Value} (h : MHdr w pm pn odd m0 rv) : w.cell? ⟨pm, 3, none⟩ = some rv := by
  unfold MHdr at h; simp [World.cell?, h]
theorem MHdr.keeps {S : List Nat} {w w' : World} {pm pn m0 : Nat} {odd : Bool} {rv : Value} (h : MHdr w pm pn odd m0 rv) (hk : Keeps S w w') (hb : pm ∉ S) : MHdr w' pm pn odd m0 rv := blk_keeps h hk hb
theorem MHdr.ne_row {w : World} {pm pn m0 b : Nat} {odd : Bool} {rv : Value} {L : List Nat} (h : MHdr w pm pn odd m0 rv) (hr : Row w b L) : pm ≠ b := by
  rintro rfl
  unfold MHdr at h
  unfold Row at hr
  rw [h] at hr
  have := congrArg (fun x => match x with | some (Obj.cells _ t _) => t | _ => 0) hr
  simp at this
theorem MHdr.ne_hdr {w : World} {pm pn m0 p lb n c : Nat} {odd : Bool} {rv : Value} (h : MHdr w pm pn odd m0 rv) (hr : Hdr w p lb n c) : pm ≠ p := by
  rintro rfl
  unfold MHdr at h
  unfold Hdr at hr
  rw [h] at hr
  have := congrArg (fun x => match x with | some (Obj.cells _ t _) => t | _ => 0) hr
  simp at this

/-- A modulus at pm: its Nat at pn, the limbs in ln, n of them. -/
structure ModB (w : World) (pm pn ln n m : Nat) (odd : Bool) (m0 : Nat) (rv : Value) : Prop where
  hdr : MHdr w pm pn odd m0 rv
  nat : NatV w pn ln n 32 m
theorem ModB.keeps {S : List Nat} {w w' : World} {pm pn ln n m m0 : Nat} {odd : Bool} {rv : Value} (h : ModB w pm pn ln n m odd m0 rv) (hk : Keeps S w w') (h1 : pm ∉ S) (h2 : pn ∉ S) (h3 : ln ∉ S) : ModB w' pm pn ln n m odd m0 rv :=
  ⟨h.hdr.keeps hk h1, h.nat.keeps hk h2 h3⟩
theorem ModB.kept {w w' : World} {pm pn ln n m m0 : Nat} {odd : Bool} {rv : Value} (h : ModB w pm pn ln n m odd m0 rv) (hk : Keeps [] w w') : ModB w' pm pn ln n m odd m0 rv := h.keeps hk (by simp) (by simp) (by simp)
theorem NatV.row' {w : World} {p lb n c v : Nat} (h : NatV w p lb n c v) : ∃ L, Row w lb L := by
  obtain ⟨_, L, J, h1, _⟩ := h; exact ⟨_, h1⟩
theorem ModB.ne_row {w : World} {pm pn ln n m m0 p lb k c v : Nat} {odd : Bool} {rv : Value} (h : ModB w pm pn ln n m odd m0 rv) (hx : NatV w p lb k c v) : pm ≠ lb := by
  obtain ⟨L, hL⟩ := hx.row'; exact h.hdr.ne_row hL
theorem ModB.ne_hdr {w : World} {pm pn ln n m m0 p lb k c v : Nat} {odd : Bool} {rv : Value} (h : ModB w pm pn ln n m odd m0 rv) (hx : NatV w p lb k c v) : pm ≠ p := h.hdr.ne_hdr hx.hdr
theorem NatV.ne2 {w : World} {p lb n c v q lc m d u : Nat} (h : NatV w p lb n c v) (k : NatV w q lc m d u) : p ≠ lc := by
  obtain ⟨L, hL⟩ := k.row'; exact h.hdr.ne hL
/-- Two Nats whose limbs lie apart are at two places. -/
theorem NatV.ne_p {w : World} {p lb n c v q lc m d u : Nat} (h : NatV w p lb n c v) (k : NatV w q lc m d u) (hl : lb ≠ lc) : p ≠ q := by
  rintro rfl
  have h1 := h.hdr
  have h2 := k.hdr
  unfold Hdr at h1 h2
  have h3 := h1.symm.trans h2
  have h4 := congrArg (fun o : Option Obj => match o with | some (Obj.cells c _ _) => (match (c[0]? : Option Value) with | some (Value.slice (some a) _ _) => a.block | _ => 0) | _ => 0) h3
  exact hl h4
/-- A block that is new. -/
theorem NatV.old {w : World} {p lb n c v x : Nat} (h : NatV w p lb n c v) (hx : w.heap.size ≤ x) : p ≠ x ∧ lb ≠ x := ⟨by have := h.plt; omega, by have := h.blt; omega⟩
theorem ModB.old {w : World} {pm pn ln n m m0 x : Nat} {odd : Bool} {rv : Value} (h : ModB w pm pn ln n m odd m0 rv) (hx : w.heap.size ≤ x) : pm ≠ x ∧ pn ≠ x ∧ ln ≠ x :=
  ⟨by have := h.hdr.lt; omega, (h.nat.old hx).1, (h.nat.old hx).2⟩

set_option maxRecDepth 100000 in
set_option maxHeartbeats 1000000 in
theorem maybeSub {pr : Prop} (p lb n c v al pm pn ln m m0 : Nat) (odd : Bool) (rv : Value) (w : World) (hx : NatV w p lb n c v) (hal : Ch pr al) (hm : ModB w pm pn ln n m odd m0 rv) :
    Calls Tryz.prog 101 #[.pointer (some ⟨p, 0, none⟩), .int .u64 (al : Int), .pointer (some ⟨pm, 0, none⟩)] w fun e w' =>
      e = .returned (.tuple #[]) ∧ ∃ v', (m ≤ v → v' + m = v) ∧ (v < m → pr → v' + m = v + BB ^ n) ∧ (v < m → ¬ pr → v' = v) ∧ NatV w' p lb n c v' ∧ Keeps [lb] w w' := by
  have hn32 := hm.nat.le
  go_enter Tryz.func101, Tryz.ntmps101
  go_wp2_with fail
  refine (newNat_any _).mono ?_
  rintro e w1 ⟨pt, lt, rfl, ht, hpt, hlt, hk1⟩
  have o1 := hx.old hpt; have o2 := hx.old hlt; have o3 := hm.old hpt; have o4 := hm.old hlt
  have hx1 := hx.kept hk1
  have hm1 := hm.kept hk1
  go_wp2_with fail
  refine (nat_set pt lt p lb 0 n 32 c 0 v _ ht hx1 hn32 (by omega) o1.1 o2.1 o1.2 o2.2).mono ?_
  rintro e w2 ⟨rfl, ht2, hk2⟩
  have hx2 := hx1.keeps hk2 (by simp [o1.1, o2.1]) (by simp [o1.2, o2.2])
  have hm2 := hm1.keeps hk2 (by simp [o3.1, o4.1]) (by simp [o3.2.1, o4.2.1]) (by simp [o3.2.2, o4.2.2])
  have cm := hm2.hdr.c0
  go_wp2_with fail
  refine (nat_sub pt lt pn ln n 32 32 v m _ ht2 hm2.nat (by omega)).mono ?_
  rintro e w3 ⟨t', d, rfl, hd, hv, ht3, hk3⟩
  have hx3 := hx2.keeps hk3 (by simp [o2.1]) (by simp [o2.2])
  have hmlt := hm2.nat.lt
  have hvlt := hx3.lt
  have htlt := ht3.lt
  have hch : Ch (v < m) d := ⟨hd, by
    have d01 : d = 0 ∨ d = 1 := by omega
    rcases d01 with rfl | rfl <;> simp at hv ⊢ <;> omega⟩
  have Hv := Lib.hid hv
  clear hv cm
  go_wp2_with fail
  refine (not_any d hch _).mono ?_
  rintro e w4 ⟨r, rfl, hr, rfl⟩
  obtain ⟨k, hkor, hkch⟩ := or_ch hr hal
  go_wp2_with fail
  refine (nat_assign p lb pt lt n c 32 v t' k _ hx3 ht3 o2.2 hkch (by omega)).mono ?_
  rintro e w5 ⟨v', rfl, hy1, hy2, hx5, hk5⟩
  have hkk : Keeps [lb] w w5 := by
    have a1 : Keeps [lb] w w1 := hk1.mono (by simp)
    have a2 : Keeps [lb] w w2 := a1.trans hk2 (by intro x hx hlt'; simp at hx; rcases hx with rfl | rfl <;> omega)
    have a3 : Keeps [lb] w w3 := a2.trans hk3 (by intro x hx hlt'; simp at hx; subst hx; omega)
    exact a3.trans1 hk5
  have hfin : (m ≤ v → v' + m = v) ∧ (v < m → pr → v' + m = v + BB ^ n) ∧ (v < m → ¬ pr → v' = v) := by
    have hv := Hv.out
    refine ⟨fun h => ?_, fun h hp => ?_, fun h hp => ?_⟩
    · have := hy1 (.inl (by omega))
      have d0 := hch.no (by omega)
      subst d0 this
      simpa using hv
    · have := hy1 (.inr hp)
      have d1 := hch.yes h
      subst d1 this
      simpa using hv
    · exact hy2 (by simp [h, hp])
  have Hfin := Lib.hid hfin
  clear hfin hy1 hy2
  go_wp2
  go_end0
  exact ⟨rfl, v', Hfin.out.1, Hfin.out.2.1, Hfin.out.2.2, hx5, hkk⟩

theorem Keeps.app {S T : List Nat} {a b c : World} (h : Keeps S a b) (k : Keeps T b c) : Keeps (S ++ T) a c :=
  (h.mono fun _ hx _ => List.mem_append_left _ hx).trans k fun _ hx _ => List.mem_append_right _ hx

set_option maxRecDepth 100000 in
set_option maxHeartbeats 1000000 in
theorem nat_Add (p lb q lc n c c' v u pm pn ln m m0 : Nat) (odd : Bool) (rv : Value) (w : World) (hx : NatV w p lb n c v) (hy : NatV w q lc n c' u) (hm : ModB w pm pn ln n m odd m0 rv) (hl : ln ≠ lb) (hv : v < m) (hu : u < m) :
    Calls Tryz.prog 104 #[.pointer (some ⟨p, 0, none⟩), .pointer (some ⟨q, 0, none⟩), .pointer (some ⟨pm, 0, none⟩)] w fun e w' =>
      e = .returned (.pointer (some ⟨p, 0, none⟩)) ∧ NatV w' p lb n c ((v + u) % m) ∧ Keeps [lb] w w' := by
  have hn32 := hm.nat.le
  have hmlt := hm.nat.lt
  have n1 := hm.ne_row hx
  have n2 := hm.nat.ne2 hx
  go_enter Tryz.func104, Tryz.ntmps104
  go_wp2_with fail
  refine (nat_add p lb q lc n c c' v u _ hx hy (by omega)).mono ?_
  rintro e w1 ⟨v1, d, rfl, hd, he, hx1, hk1⟩
  have hm1 := hm.keeps hk1 (by simpa using n1) (by simpa using n2) (by simpa using hl)
  have hch : Ch (d = 1) d := ⟨hd, Iff.rfl⟩
  have He := Lib.hid he; clear he
  go_wp2_with fail
  refine (maybeSub p lb n c v1 d pm pn ln m m0 odd rv _ hx1 hch hm1).mono ?_
  rintro e w2 ⟨rfl, v', h1, h2, h3, hx2, hk2⟩
  have hkk := hk1.trans1 hk2
  have hfin : v' = (v + u) % m := by
    have he := He.out
    have hx1lt := hx1.lt
    have d01 : d = 0 ∨ d = 1 := by omega
    have hlt : v + u < 2 * m := by omega
    have hmod : (v + u) % m = if v + u < m then v + u else v + u - m := by
      split
      · exact Nat.mod_eq_of_lt (by omega)
      · rw [Nat.mod_eq_sub_mod (by omega), Nat.mod_eq_of_lt (by omega)]
    rw [hmod]
    rcases d01 with rfl | rfl
    · simp only [Nat.zero_mul, Nat.add_zero] at he
      by_cases hc : m ≤ v1
      · have := h1 hc; split <;> omega
      · have := h3 (by omega) (by omega); split <;> omega
    · simp only [Nat.one_mul] at he
      have := h2 (by omega) rfl; split <;> omega
  have Hfin := Lib.hid hfin
  clear hfin h1 h2 h3
  go_wp2
  go_ret
  exact ⟨rfl, by rw [← Hfin.out]; exact hx2, hkk⟩

set_option maxRecDepth 100000 in
set_option maxHeartbeats 1000000 in
theorem nat_Sub (p lb q lc n c c' v u pm pn ln m m0 : Nat) (odd : Bool) (rv : Value) (w : World) (hx : NatV w p lb n c v) (hy : NatV w q lc n c' u) (hm : ModB w pm pn ln n m odd m0 rv) (hl : ln ≠ lb) (hu : u ≤ v + m) :
    Calls Tryz.prog 80 #[.pointer (some ⟨p, 0, none⟩), .pointer (some ⟨q, 0, none⟩), .pointer (some ⟨pm, 0, none⟩)] w fun e w' =>
      e = .returned (.pointer (some ⟨p, 0, none⟩)) ∧ ∃ v', (u ≤ v → v' + u = v) ∧ (v < u → v' + u = v + m) ∧ NatV w' p lb n c v' ∧ Keeps [lb] w w' := by
  have hn32 := hm.nat.le
  have hmlt := hm.nat.lt
  have hult := hy.lt
  have hvlt := hx.lt
  have n1 := hm.ne_row hx
  have n2 := hm.nat.ne2 hx
  go_enter Tryz.func80, Tryz.ntmps80
  go_wp2_with fail
  refine (nat_sub p lb q lc n c c' v u _ hx hy (by omega)).mono ?_
  rintro e w1 ⟨v1, d, rfl, hd, he, hx1, hk1⟩
  have hm1 := hm.keeps hk1 (by simpa using n1) (by simpa using n2) (by simpa using hl)
  have hx1lt := hx1.lt
  have hch : Ch (v < u) d := ⟨hd, by
    have d01 : d = 0 ∨ d = 1 := by omega
    rcases d01 with rfl | rfl <;> simp at he ⊢ <;> omega⟩
  have He := Lib.hid he; clear he
  go_wp2_with fail
  refine (newNat_any _).mono ?_
  rintro e w2 ⟨pt, lt, rfl, ht, hpt, hlt, hk2⟩
  have o1 := hx1.old hpt; have o2 := hx1.old hlt; have o3 := hm1.old hpt; have o4 := hm1.old hlt
  have hx2 := hx1.kept hk2
  have hm2 := hm1.kept hk2
  go_wp2_with fail
  refine (nat_set pt lt p lb 0 n 32 c 0 v1 _ ht hx2 hn32 (by omega) o1.1 o2.1 o1.2 o2.2).mono ?_
  rintro e w3 ⟨rfl, ht3, hk3⟩
  have hx3 := hx2.keeps hk3 (by simp [o1.1, o2.1]) (by simp [o1.2, o2.2])
  have hm3 := hm2.keeps hk3 (by simp [o3.1, o4.1]) (by simp [o3.2.1, o4.2.1]) (by simp [o3.2.2, o4.2.2])
  have cm := hm3.hdr.c0
  go_wp2_with fail
  refine (nat_add pt lt pn ln n 32 32 v1 m _ ht3 hm3.nat (by omega)).mono ?_
  rintro e w4 ⟨t', d', rfl, hd', he', ht4, hk4⟩
  have hx4 := hx3.keeps hk4 (by simp [o2.1]) (by simp [o2.2])
  have htlt := ht4.lt
  have He' := Lib.hid he'; clear he' cm
  go_wp2_with fail
  refine (nat_assign p lb pt lt n c 32 v1 t' d _ hx4 ht4 o2.2 hch (by omega)).mono ?_
  rintro e w5 ⟨v', rfl, hy1, hy2, hx5, hk5⟩
  have hs1 := hk1.size
  have hs2 := hk2.size
  have hkk : Keeps [lb] w w5 := by
    have a2 : Keeps [lb] w w2 := hk1.trans hk2 (by simp)
    have a3 : Keeps [lb] w w3 := a2.trans hk3 (by intro x hx hlt'; simp at hx; rcases hx with rfl | rfl <;> omega)
    have a4 : Keeps [lb] w w4 := a3.trans hk4 (by intro x hx hlt'; simp at hx; subst hx; omega)
    exact a4.trans1 hk5
  have hfin : (u ≤ v → v' + u = v) ∧ (v < u → v' + u = v + m) := by
    have he := He.out
    have he' := He'.out
    refine ⟨fun h => ?_, fun h => ?_⟩
    · have d0 := hch.no (by omega)
      have := hy2 (by omega)
      subst d0 this
      simpa using he
    · have d1 := hch.yes h
      have := hy1 h
      subst d1 this
      simp only [Nat.one_mul] at he
      have d01 : d' = 0 ∨ d' = 1 := by omega
      rcases d01 with rfl | rfl
      · simp only [Nat.zero_mul, Nat.add_zero] at he'; omega
      · simp only [Nat.one_mul] at he'; omega
  have Hfin := Lib.hid hfin
  clear hfin hy1 hy2
  go_wp2
  go_ret
  exact ⟨rfl, v', Hfin.out.1, Hfin.out.2, hx5, hkk⟩

set_option maxRecDepth 100000 in
set_option maxHeartbeats 1000000 in
theorem nat_ExpandFor (p lb k v pm pn ln n m m0 : Nat) (odd : Bool) (rv : Value) (w : World) (hx : NatV w p lb k 32 v) (hm : ModB w pm pn ln n m odd m0 rv) (hk : k ≤ n) (hk32 : k < 32) :
    Calls Tryz.prog 73 #[.pointer (some ⟨p, 0, none⟩), .pointer (some ⟨pm, 0, none⟩)] w fun e w' =>
      e = .returned (.pointer (some ⟨p, 0, none⟩)) ∧ NatV w' p lb n 32 v ∧ Keeps [p, lb] w w' := by
  have hn32 := hm.nat.le
  have c0 := hm.hdr.c0
  have c1 := hm.nat.hdr.cell
  go_enter Tryz.func73, Tryz.ntmps73
  go_wp2_with fail
  refine (nat_expand p lb k 32 v n _ hx hk hn32 hk32 (by omega)).mono ?_
  rintro e w1 ⟨rfl, hx1, hk1⟩
  go_wp2
  go_ret
  exact ⟨rfl, hx1, hk1⟩

set_option maxRecDepth 100000 in
set_option maxHeartbeats 1000000 in
theorem nat_resetFor (p lb k c v pm pn ln n m m0 : Nat) (odd : Bool) (rv : Value) (w : World) (hx : NatV w p lb k c v) (hm : ModB w pm pn ln n m odd m0 rv) (hk : n ≤ c) (hc : c ≤ 1000) :
    Calls Tryz.prog 64 #[.pointer (some ⟨p, 0, none⟩), .pointer (some ⟨pm, 0, none⟩)] w fun e w' =>
      e = .returned (.pointer (some ⟨p, 0, none⟩)) ∧ NatV w' p lb n c 0 ∧ Keeps [p, lb] w w' := by
  have c0 := hm.hdr.c0
  have c1 := hm.nat.hdr.cell
  go_enter Tryz.func64, Tryz.ntmps64
  go_wp2_with fail
  refine (nat_reset p lb k c v n _ hx hk hc).mono ?_
  rintro e w1 ⟨rfl, hx1, hk1⟩
  go_wp2
  go_ret
  exact ⟨rfl, hx1, hk1⟩

end Go.Proofs.YtnfjmngchapdnaaGreatDoor
