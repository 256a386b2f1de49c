import Derived.Test.YtnfjmngchapdnaaDoorMReader
/- io.ReadFull; rsa.nonZeroRandomBytes. -/
namespace Go.Proofs.YtnfjmngchapdnaaDoor
open Go.RowKit

set_option maxRecDepth 100000 in
set_option maxHeartbeats 2000000 in
theorem readFull_any (rp s oR nR cR i b off dLen dCap : Nat) (R L : List Nat) (w : World) (a0 a1 a2 a3 : Addr) (hg : Gl w a0 a1 a2 a3) (hr : RdV w rp (some ⟨s, oR, none⟩) nR cR i) (hR : BAt w s oR R) (hRn : R.length = nR) (hc : nR ≤ cR) (hsz : nR ≤ 100000)
    (hb : RowB w b L) (hfit : off + dLen ≤ L.length) (hd : 0 < dLen) (hdc : dLen ≤ dCap) (hsb : s ≠ b) (hrb : 4 ≤ rp) (hbb : 4 ≤ b) (hdz : dLen ≤ 100000) (hin : i ≤ nR) (hnR : 0 < nR) :
    Calls Tryd.prog 38 #[.iface 47 (.pointer (some ⟨rp, 0, none⟩)), .slice (some ⟨b, off, none⟩) dLen dCap] w fun e w' => FullR e w' rp s oR nR cR i b off dLen R L ∧ Keeps [rp, b] w w' := by
  have hra := readAtLeast_any rp s oR nR cR i b off dLen dCap R L w a0 a1 a2 a3 hg hr hR hRn hc hsz hb hfit hd hdc hsb hrb hbb hdz hin hnR
  have HRA := Lib.hid hra
  clear hra
  go_enter Tryd.func38, Tryd.ntmps38
  go_wp2_with fail
  refine HRA.out.mono ?_
  rintro e w1 ⟨⟨h1, rfl, hB, hV⟩ | ⟨h1, x, t, v, rfl⟩, hk⟩
  · have HB := Lib.hid (And.intro hB hV); have HK := Lib.hid hk
    clear hB hV hk
    go_wp2_with fail
    go_ret2
    exact ⟨.inl ⟨h1, rfl, HB.out.1, HB.out.2⟩, HK.out⟩
  · have HK := Lib.hid hk
    clear hk
    go_wp2_with fail
    go_ret2
    exact ⟨.inr ⟨h1, _, _, _, rfl⟩, HK.out⟩

/-- A byte, drawn again while it is nought. -/
def fixB : List Nat → Nat → Option (Nat × List Nat)
  | T, x + 1 => some (x + 1, T)
  | [], 0 => none
  | y :: T, 0 => fixB T (y ^^^ 66)
/-- All bytes, each drawn again while it is nought. -/
def fixAll : List Nat → List Nat → Option (List Nat × List Nat)
  | [], T => some ([], T)
  | x :: P, T => (fixB T x).bind fun r => (fixAll P r.2).map fun p => (r.1 :: p.1, p.2)
/-- What is still to do: D is done, x the byte at hand, P those behind. -/
def fixRest (D : List Nat) (x : Nat) (P T : List Nat) : Option (List Nat × List Nat) := (fixB T x).bind fun r => (fixAll P r.2).map fun p => (D ++ r.1 :: p.1, p.2)
def fixDone (D P T : List Nat) : Option (List Nat × List Nat) := (fixAll P T).map fun p => (D ++ p.1, p.2)
theorem fixDone_cons (D : List Nat) (x : Nat) (P T : List Nat) : fixDone D (x :: P) T = fixRest D x P T := by
  unfold fixDone fixRest
  rw [fixAll]
  cases fixB T x with
  | none => rfl
  | some r =>
    simp only [Option.bind_some, Option.map_map]
    cases fixAll P r.2 <;> rfl
theorem fixRest_pos (D : List Nat) (x : Nat) (P T : List Nat) (h : x ≠ 0) : fixRest D x P T = fixDone (D ++ [x]) P T := by
  obtain ⟨y, rfl⟩ : ∃ y, x = y + 1 := ⟨x - 1, by omega⟩
  unfold fixDone fixRest
  have : fixB T (y + 1) = some (y + 1, T) := by cases T <;> rfl
  rw [this]
  simp
theorem fixRest_zero (D : List Nat) (y : Nat) (P T : List Nat) : fixRest D 0 P (y :: T) = fixRest D (y ^^^ 66) P T := rfl
theorem fixRest_none (D : List Nat) (P : List Nat) : fixRest D 0 P [] = none := rfl
theorem fixDone_nil (D T : List Nat) : fixDone D [] T = some (D, T) := by simp [fixDone, fixAll]
theorem fixAll_done (P T : List Nat) : fixAll P T = fixDone [] P T := by
  unfold fixDone
  cases fixAll P T <;> simp
theorem xor_66 (a : Nat) (ha : a < 256) : Go.bits .xor .u8 (a : Int) 66 = ((a ^^^ 66 : Nat) : Int) ∧ a ^^^ 66 < 256 := by
  have h1 : (BitVec.ofInt 8 (a : Int)).toNat = a := by
    rw [BitVec.ofInt_natCast, BitVec.toNat_ofNat]; exact Nat.mod_eq_of_lt (by omega)
  have h2 : (BitVec.ofInt 8 (66 : Int)).toNat = 66 := by decide
  have h3 : a ^^^ 66 < 2 ^ 8 := Nat.xor_lt_two_pow (by omega) (by omega)
  refine ⟨?_, h3⟩
  show IntKind.u8.wrap ((BitVec.ofInt 8 (a : Int) ^^^ BitVec.ofInt 8 (66 : Int)).toNat : Int) = _
  rw [BitVec.toNat_xor, h1, h2, IntKind.wrap_u8]
  omega

/-- A row with Q in its midst. -/
def mid (off need : Nat) (L Q : List Nat) : List Nat := L.take off ++ (Q ++ L.drop (off + need))
theorem mid_get {off need : Nat} {L Q : List Nat} (ho : off ≤ L.length) {i x : Nat} (h : Q[i]? = some x) : (mid off need L Q)[off + i]? = some x := by
  have hi : i < Q.length := by
    rcases Nat.lt_or_ge i Q.length with h1 | h1
    · exact h1
    · rw [List.getElem?_eq_none h1] at h; simp at h
  unfold mid
  rw [List.getElem?_append_right (by simp; omega)]
  simp only [List.length_take, Nat.min_eq_left ho, Nat.add_sub_cancel_left]
  rw [List.getElem?_append_left hi]
  exact h
theorem mid_set {off need : Nat} {L Q : List Nat} (ho : off ≤ L.length) {i : Nat} (hi : i < Q.length) (z : Nat) : (mid off need L Q).set (off + i) z = mid off need L (Q.set i z) := by
  unfold mid
  rw [List.set_append_right _ _ (by simp; omega)]
  simp only [List.length_take, Nat.min_eq_left ho, Nat.add_sub_cancel_left]
  rw [List.set_append_left _ _ hi]
theorem mid_len {off need : Nat} {L Q : List Nat} (hQ : Q.length = need) (ho : off + need ≤ L.length) : (mid off need L Q).length = L.length := by
  unfold mid
  simp
  omega
theorem one_read {X : List Nat} {k y : Nat} (hk : k < X.length) : X.take k ++ ([y] ++ X.drop (k + 1)) = X.set k y := by
  rw [List.set_eq_take_append_cons_drop, if_pos hk]
  rfl
theorem set_mid (D P : List Nat) (x z : Nat) : (D ++ x :: P).set D.length z = D ++ z :: P := by simp
theorem get_mid (D P : List Nat) (x : Nat) : (D ++ x :: P)[D.length]? = some x := by simp

/-- What the drawing leaves. -/
def NzR (e : Ending) (w' : World) (b off need nR : Nat) (L : List Nat) (tot : Option (List Nat × List Nat)) : Prop :=
  (∃ P' T', need ≤ nR ∧ tot = some (P', T') ∧ e = .returned .nilIface ∧ RowB w' b (mid off need L P') ∧ P'.length = need ∧ LtB P') ∨
    ((nR < need ∨ tot = none) ∧ ∃ t v, e = .returned (.iface t v))
set_option maxRecDepth 100000 in
set_option maxHeartbeats 4000000 in
theorem nonZero_any (rp s oR nR cR b off need dCap : Nat) (R L : List Nat) (w : World) (a0 a1 a2 a3 : Addr) (hg : Gl w a0 a1 a2 a3) (hr : RdV w rp (some ⟨s, oR, none⟩) nR cR 0) (hR : BAt w s oR R) (hRl : LtB R) (hRn : R.length = nR) (hc : nR ≤ cR) (hsz : nR ≤ 100000)
    (hb : RowB w b L) (hfit : off + need ≤ L.length) (hd : 0 < need) (hdc : need ≤ dCap) (hsb : s ≠ b) (hrb : 4 ≤ rp) (hbb : 4 ≤ b) (hdz : need ≤ 100000) (hnR : 0 < nR) (hdz2 : dCap ≤ 200000) :
    Calls Tryd.prog 27 #[.slice (some ⟨b, off, none⟩) need dCap, .iface 47 (.pointer (some ⟨rp, 0, none⟩))] w fun e w' =>
      NzR e w' b off need nR L (fixAll (R.take need) (R.drop need)) ∧ Keeps [rp, b] w w' := by
  have hne := hr.ne_bytes hR (List.ne_nil_of_length_pos (by omega))
  have hsw := World.block_lt_of_cell? w _ (hR 0 (by omega))
  have hrf := readFull_any rp s oR nR cR 0 b off need dCap R L w a0 a1 a2 a3 hg hr hR hRn hc hsz hb hfit hd hdc hsb hrb hbb hdz (by omega) hnR
  have HRF := Lib.hid hrf
  have keepG : ∀ w', Keeps [rp, b] w w' → Gl w' a0 a1 a2 a3 ∧ BAt w' s oR R := fun w' hk => ⟨hg.keeps hk (by simp; omega), hR.keeps hsw hk (by simp [hne, hsb])⟩
  have KG := Lib.hid keepG
  obtain ⟨tot, htot⟩ : ∃ tot, tot = fixAll (R.take need) (R.drop need) := ⟨_, rfl⟩
  rw [← htot]
  have HTOT := Lib.hid htot
  clear keepG hrf htot
  go_enter Tryd.func27, Tryd.ntmps27
  go_wp2_with fail
  refine HRF.out.mono ?_
  rintro e w1 ⟨⟨h1, rfl, hB, hV⟩ | ⟨h1, x, t, v, rfl⟩, hk⟩
  · rw [Nat.zero_add] at h1 hV
    rw [List.drop_zero] at hB
    have HB := Lib.hid hB; have HV := Lib.hid hV; have HK := Lib.hid hk
    clear hB hV hk
    go_wp2_with fail
    go_loopg [4, 5] need (fun gn ev iv wx => ∃ (i next : Nat) (D P : List Nat), gn = need - i ∧ ev = .nilIface ∧ iv = .int .i64 (i : Int) ∧ i ≤ need ∧ next ≤ nR ∧ Hid (D.length = i) ∧ Hid (P.length = need - i) ∧ Hid (LtB D ∧ LtB P) ∧ Hid (RowB wx b (mid off need L (D ++ P)) ∧ RdV wx rp (some ⟨s, oR, none⟩) nR cR next) ∧ Hid (tot = fixDone D P (R.drop next)) ∧ Hid (Keeps [rp, b] w wx))
    case atStart =>
      refine ⟨0, need, [], R.take need, by omega, rfl, by go_num, by omega, h1, Lib.hid rfl, Lib.hid (by simp; omega), Lib.hid ⟨fun x hx => by simp at hx, fun x hx => hRl x (List.mem_of_mem_take hx)⟩, Lib.hid ⟨?_, HV.out⟩, Lib.hid ?_, HK⟩
      · exact HB.out
      · rw [HTOT.out]; exact fixAll_done _ _
    case round =>
      obtain ⟨i, next, D, P, hgi, rfl, rfl, hin, hnx, hD, hP, hLt, hB, hF, hK⟩ := hrel
      clear HB HV HK
      by_cases hlt : i < need
      · have i1 : (i : Int) < (need : Int) := by omega
        obtain ⟨x, P', rfl⟩ : ∃ x P', P = x :: P' := by
          cases P with
          | nil => have := hP.out; simp at this; omega
          | cons x P' => exact ⟨x, P', rfl⟩
        have hF' := Lib.hid (show tot = fixRest D x P' (R.drop next) by rw [hF.out]; exact fixDone_cons D x P' _)
        have hP' := Lib.hid (show P'.length = need - (i + 1) by have := hP.out; simp at this; omega)
        have hLt' := Lib.hid (show LtB D ∧ x < 256 ∧ LtB P' from ⟨hLt.out.1, hLt.out.2 x (by simp), fun y hy => hLt.out.2 y (by simp [hy])⟩)
        clear hF hP hLt
        go_wp2_with fail
        go_loopg [4] (nR - next) (fun gn ev wx => ∃ (next x : Nat), gn = nR - next ∧ ev = .nilIface ∧ next ≤ nR ∧ Hid (x < 256) ∧ Hid (RowB wx b (mid off need L (D ++ x :: P')) ∧ RdV wx rp (some ⟨s, oR, none⟩) nR cR next) ∧ Hid (tot = fixRest D x P' (R.drop next)) ∧ Hid (Keeps [rp, b] w wx))
        case atStart => exact ⟨next, x, rfl, rfl, hnx, Lib.hid hLt'.out.2.1, hB, hF', hK⟩
        case round =>
          clear hB hF' hK
          obtain ⟨next, x, hgn, rfl, hnx, hx, hB, hF, hK⟩ := hrel
          have hxl := hx.out
          have hget := mid_get (off := off) (need := need) (L := L) (by omega) (get_mid D P' x)
          rw [hD.out] at hget
          have cx := hB.out.1.cell hget
          have fx := hB.out.1.free (off + i)
          have HG := Lib.hid hget
          clear hget
          by_cases hx0 : x = 0
          · subst hx0
            have i2 : (i : Int) + 1 ≤ (dCap : Int) := by omega
            have i3 : ¬ (dCap = i) := by omega
            have hml := mid_len (off := off) (need := need) (L := L) (Q := D ++ 0 :: P') (by simp; have := hD.out; have := hP'.out; omega) hfit
            have hrf2 := readFull_any rp s oR nR cR next b (off + i) 1 (dCap - i) R (mid off need L (D ++ 0 :: P')) wr a0 a1 a2 a3 (KG.out _ hK.out).1 hB.out.2 (KG.out _ hK.out).2 hRn hc hsz hB.out.1 (by omega) (by omega) (by omega) hsb hrb hbb (by omega) hnx hnR
            have HRF2 := Lib.hid hrf2
            have HML := Lib.hid hml
            clear hrf2 hml hB
            go_wp2_with fail
            refine HRF2.out.mono ?_
            rintro e w2 ⟨⟨h2, rfl, hB2, hV2⟩ | ⟨h2, x2, t2, v2, rfl⟩, hk2⟩
            · obtain ⟨y, hy⟩ : ∃ y, R[next]? = some y := ⟨R[next], List.getElem?_eq_getElem _⟩
              have hyR : y < 256 := hRl y (List.mem_of_getElem? hy)
              have e2 : R.drop next = y :: R.drop (next + 1) := by
                rw [List.drop_eq_getElem_cons (by omega)]
                rw [List.getElem?_eq_getElem (by omega)] at hy
                simp only [Option.some.injEq] at hy
                rw [hy]
              have e1 : (R.drop next).take 1 = [y] := by rw [e2]; rfl
              have hDl : off + i < (mid off need L (D ++ 0 :: P')).length := by have := HML.out; omega
              rw [e1, one_read hDl, mid_set (by omega) (by simp; have := hD.out; omega)] at hB2
              have e3 := set_mid D P' 0 y
              rw [hD.out] at e3
              rw [e3] at hB2
              have hget2 := mid_get (off := off) (need := need) (L := L) (by omega) (get_mid D P' y)
              rw [hD.out] at hget2
              have cy := hB2.cell hget2
              have fy := hB2.free (off + i)
              obtain ⟨hxor, hxl2⟩ := xor_66 y hyR
              have hB3 := hB2.set (off + i) (y ^^^ 66)
              rw [mid_set (by omega) (by simp; have := hD.out; omega)] at hB3
              have e4 := set_mid D P' y (y ^^^ 66)
              rw [hD.out] at e4
              rw [e4] at hB3
              have hbr : rp ≠ b := by
                rintro rfl
                obtain ⟨pr, hv⟩ := hV2
                have h5 := hB2.symm.trans hv
                simp only [Option.some.injEq, Obj.cells.injEq] at h5
                exact absurd h5.2.1 (by decide)
              have hV3 := hV2.keeps ((Keeps.refl [b] w2).setCell (p := ⟨b, off + i, none⟩) (by simp) (.int .u8 ((y ^^^ 66 : Nat) : Int))) (by simp [hbr])
              have HB3 := Lib.hid (And.intro hB3 hV3)
              have HK3 := Lib.hid ((hK.out.trans1 hk2).setCell (p := ⟨b, off + i, none⟩) (fun _ => by simp) (.int .u8 ((y ^^^ 66 : Nat) : Int)))
              have HF3 := Lib.hid (show tot = fixRest D (y ^^^ 66) P' (R.drop (next + 1)) by rw [hF.out, e2]; exact fixRest_zero D y P' _)
              have HXL := Lib.hid hxl2
              clear hB2 hV2 hB3 hV3 hk2 e1 e2 e3 e4 hget2 hy hxl2
              go_wp2_with fail
              go_roundg (nR - (next + 1))
              case measure => omega
              case rel => exact ⟨next + 1, y ^^^ 66, rfl, rfl, by omega, HXL, HB3, HF3, HK3⟩
            · have HK2 := Lib.hid (hK.out.trans1 hk2)
              have hnone : tot = none := by
                rw [hF.out, List.drop_of_length_le (by omega)]
                exact fixRest_none D P'
              have HN := Lib.hid hnone
              clear hk2 hnone
              go_wp2_with fail
              go_ret
              exact ⟨.inr ⟨.inr HN.out, _, _, rfl⟩, HK2.out⟩
          · have i2 : ¬ ((x : Int) = 0) := by omega
            go_wp2_with fail
            go_roundg (need - (i + 1))
            case measure => omega
            case rel =>
              refine ⟨i + 1, next, D ++ [x], P', rfl, rfl, by go_num, by omega, hnx, Lib.hid (by simp [hD.out]), hP', Lib.hid ⟨fun z hz => ?_, hLt'.out.2.2⟩, Lib.hid ⟨?_, hB.out.2⟩, Lib.hid ?_, hK⟩
              · rcases List.mem_append.1 hz with h | h
                · exact hLt'.out.1 z h
                · simp at h; subst h; exact hx.out
              · have h := hB.out.1
                rw [List.append_assoc]
                exact h
              · rw [hF.out]; exact fixRest_pos D x P' _ hx0
      · have hi' : i = need := by omega
        have i1 : ¬ (i : Int) < (need : Int) := by omega
        have hP0 : P = [] := List.length_eq_zero_iff.1 (by have := hP.out; omega)
        have hfin : Hid (tot = some (D, R.drop next)) := Lib.hid (by rw [hF.out, hP0]; exact fixDone_nil D _)
        have hBf := Lib.hid (show RowB wr b (mid off need L D) by have h := hB.out.1; rw [hP0, List.append_nil] at h; exact h)
        have hDf := Lib.hid (show D.length = need by rw [hD.out]; exact hi')
        clear hi' hP0
        go_wp2_with fail
        go_ret
        exact ⟨.inl ⟨D, _, h1, hfin.out, rfl, hBf.out, hDf.out, hLt.out.1⟩, hK.out⟩
  · have HK := Lib.hid hk
    clear hk
    go_wp2_with fail
    go_ret
    exact ⟨.inr ⟨.inl (by omega), _, _, rfl⟩, HK.out⟩

end Go.Proofs.YtnfjmngchapdnaaDoor
