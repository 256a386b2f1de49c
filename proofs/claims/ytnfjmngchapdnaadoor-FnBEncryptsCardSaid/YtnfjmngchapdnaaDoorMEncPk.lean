import Derived.Test.YtnfjmngchapdnaaDoorMNonZero
/- rsa.EncryptPKCS1v15. -/
namespace Go.Proofs.YtnfjmngchapdnaaDoor
open Go.RowKit

set_option maxRecDepth 100000 in
set_option maxHeartbeats 4000000 in
theorem readAtLeast_empty (rp cR dLen dCap b off : Nat) (a : Option Addr) (w : World) (a0 a1 a2 a3 : Addr) (hg : Gl w a0 a1 a2 a3) (hr : RdV w rp a 0 cR 0) (hd : 0 < dLen) (hdc : dLen ≤ dCap) (hdz : dLen ≤ 100000) :
    Calls Tryd.prog 47 #[.iface 47 (.pointer (some ⟨rp, 0, none⟩)), .slice (some ⟨b, off, none⟩) dLen dCap, .int .i64 (dLen : Int)] w fun e w' => (∃ x t v, e = .returned (.tuple #[x, .iface t v])) ∧ Keeps [] w w' := by
  have hna := nil_ahead
  have hme := method_read
  have hdc0 : ¬ (dCap = 0) := by omega
  go_enter Tryd.func47, Tryd.ntmps47
  go_wp2_with fail
  go_loopg [6, 7] 1 (fun gn nv ev wx => (gn = 1 ∧ nv = .int .i64 0 ∧ ev = .nilIface ∧ Hid (Keeps [] w wx)) ∨ (gn = 0 ∧ nv = .int .i64 0 ∧ ev = .iface 89 (.pointer (some a2)) ∧ Hid (Keeps [] w wx)))
  case atStart => exact .inl ⟨rfl, rfl, rfl, Lib.hid (Keeps.refl _ _)⟩
  case round =>
    rcases hrel with ⟨hgn, rfl, rfl, hK⟩ | ⟨hgn, rfl, rfl, hK⟩
    · have i1 : (0 : Int) < (dLen : Int) := by omega
      have hre := read_eof rp a 0 cR 0 (.slice (some ⟨b, off, none⟩) dLen dCap) wr.drew a0 a1 a2 a3 (hg.keeps hK.out.drew (by simp)) (hr.keeps hK.out.drew (by simp)) (by omega)
      have HRE := Lib.hid hre
      clear hre
      go_wp2_with fail
      refine wp_region_txt [0,0,0,0,2,0,0,2,0,0,0,0,0] (fun _ => True) (by kernel_rfl) (by kernel_rfl) trivial ?_
      simp only [withMarks]
      repeat (first
        | ((with_reducible refine txt_v (v := ?_) ?_ ?_); (any_goals ((with_reducible refine Yl.mk ?_ ?_); rfl; intro w hSw; (go_simp <;> (try go_bits) <;> (repeat (first | rw [if_pos (by omega)] | rw [if_neg (by omega)])) <;> with_reducible rfl))); try simp only [Act.put, List.setIfInBounds_toArray, List.set_cons_zero, List.set_cons_succ])
        | ((with_reducible refine txt_u ?_ ?_); rfl; try simp only [Act.put, List.setIfInBounds_toArray, List.set_cons_zero, List.set_cons_succ])
        | ((with_reducible refine txt_l (v := ?_) ?_ ?_); (any_goals ((with_reducible refine Reads.mk ?_ ?_); rfl; (go_simp <;> (try go_bits) <;> (repeat (first | rw [if_pos (by omega)] | rw [if_neg (by omega)])) <;> with_reducible rfl))); try simp only [Act.put, List.setIfInBounds_toArray, List.set_cons_zero, List.set_cons_succ])
        | ((with_reducible refine txt_e ?_ ?_); rfl; intro K hK; go_simp; (first | (refine hK _ _ trivial ?_) | ((first | (go_at_call 108; refine HRE.out.mono ?_; rintro e w2 ⟨rfl, hk2⟩)); dsimp only; refine hK _ _ trivial ?_)); clear hK K; try simp only [Act.put, List.setIfInBounds_toArray, List.set_cons_zero, List.set_cons_succ]))
      refine txt_nil ?_
      have HK2 := Lib.hid (hK.out.drew.trans1 hk2)
      clear hk2 hK
      go_wp2_with fail
      go_roundg 0
      case measure => omega
      case rel => exact .inr ⟨rfl, by go_num, rfl, HK2⟩
    · have i1 : (0 : Int) < (dLen : Int) := by omega
      have i2 : decide ((dLen : Int) ≤ 0) = false := decide_eq_false (by omega)
      go_wp2_with fail
      go_ret2
      exact ⟨⟨_, _, _, rfl⟩, hK.out⟩

set_option maxRecDepth 100000 in
set_option maxHeartbeats 4000000 in
theorem nonZero_empty (rp cR need dCap b off : Nat) (a : Option Addr) (w : World) (a0 a1 a2 a3 : Addr) (hg : Gl w a0 a1 a2 a3) (hr : RdV w rp a 0 cR 0) (hd : 0 < need) (hdc : need ≤ dCap) (hdz : need ≤ 100000) :
    Calls Tryd.prog 27 #[.slice (some ⟨b, off, none⟩) need dCap, .iface 47 (.pointer (some ⟨rp, 0, none⟩))] w fun e w' => (∃ t v, e = .returned (.iface t v)) ∧ Keeps [] w w' := by
  have hra := readAtLeast_empty rp cR need dCap b off a w a0 a1 a2 a3 hg hr hd hdc hdz
  have HRA := Lib.hid hra
  clear hra
  have hrf : Calls Tryd.prog 38 #[.iface 47 (.pointer (some ⟨rp, 0, none⟩)), .slice (some ⟨b, off, none⟩) need dCap] w fun e w' => (∃ x t v, e = .returned (.tuple #[x, .iface t v])) ∧ Keeps [] w w' := by
    go_enter Tryd.func38, Tryd.ntmps38
    go_wp2_with fail
    refine HRA.out.mono ?_
    rintro e w1 ⟨⟨x, t, v, rfl⟩, hk⟩
    have HK := Lib.hid hk
    clear hk
    go_wp2_with fail
    go_ret2
    exact ⟨⟨_, _, _, rfl⟩, HK.out⟩
  have HRF := Lib.hid hrf
  clear hrf
  go_enter Tryd.func27, Tryd.ntmps27
  go_wp2_with fail
  refine HRF.out.mono ?_
  rintro e w1 ⟨⟨x, t, v, rfl⟩, hk⟩
  have HK := Lib.hid hk
  clear hk
  go_wp2_with fail
  go_ret
  exact ⟨⟨_, _, rfl⟩, HK.out⟩

/-- The drawing at whatever reader. -/
theorem nonZero_all (rp nR cR b off need dCap : Nat) (a : Option Addr) (R L : List Nat) (w : World) (a0 a1 a2 a3 : Addr) (hg : Gl w a0 a1 a2 a3) (hr : RdV w rp a nR cR 0) (hs : SlB w a nR cR R) (hsz : nR ≤ 100000)
    (hb : RowB w b L) (hfit : off + need ≤ L.length) (hd : 0 < need) (hdc : need ≤ dCap) (hsb : R ≠ [] → ∀ s o, a = some ⟨s, o, none⟩ → s ≠ b) (hrb : 4 ≤ rp) (hbb : 4 ≤ b) (hdz : need ≤ 100000) (hdz2 : dCap ≤ 200000) :
    Calls Tryd.prog 27 #[.slice (some ⟨b, off, none⟩) need dCap, .iface 47 (.pointer (some ⟨rp, 0, none⟩))] w fun e w' =>
      NzR e w' b off need nR L (fixAll (R.take need) (R.drop need)) ∧ Keeps [rp, b] w w' := by
  obtain ⟨h1, h2, h3, h4⟩ := hs
  rcases Nat.eq_zero_or_pos nR with h0 | h0
  · subst h0
    exact (nonZero_empty rp cR need dCap b off a w a0 a1 a2 a3 hg hr hd hdc hdz).mono fun e w' ⟨h, hk⟩ => ⟨.inr ⟨.inl hd, h⟩, hk.mono (by simp)⟩
  · have hR0 : R ≠ [] := List.ne_nil_of_length_pos (by omega)
    obtain ⟨s, o, rfl, hsl, hB⟩ := h4 hR0
    exact nonZero_any rp s o nR cR b off need dCap R L w a0 a1 a2 a3 hg hr hB h3 h1 h2 hsz hb hfit hd hdc (hsb hR0 s o rfl) hrb hbb hdz h0 hdz2

theorem enc_row (k need ml : Nat) (P : List Nat) (hk : k = need + ml + 3) (hP : P.length = need) : mid 2 need ((List.replicate k 0).set 1 2) P = [0, 2] ++ P ++ List.replicate (ml + 1) 0 := by
  have e1 : (List.replicate k 0).set 1 2 = [0, 2] ++ List.replicate (k - 2) 0 := by
    obtain ⟨j, rfl⟩ : ∃ j, k = j + 2 := ⟨k - 2, by omega⟩
    rfl
  unfold mid
  rw [e1]
  have e2 : ([0, 2] ++ List.replicate (k - 2) 0).drop (2 + need) = List.replicate (ml + 1) 0 := by
    rw [← List.drop_drop]
    show (List.replicate (k - 2) 0).drop need = _
    rw [List.drop_replicate]
    congr 1
    omega
  rw [e2]
  rfl
theorem enc_set (k need ml : Nat) (P : List Nat) (hk : k = need + ml + 3) (hP : P.length = need) : ([0, 2] ++ P ++ List.replicate (ml + 1) 0).set (k - ml - 1) 0 = [0, 2] ++ P ++ List.replicate (ml + 1) 0 := by
  obtain ⟨A, hA⟩ : ∃ A : List Nat, A = [0, 2] ++ P := ⟨_, rfl⟩
  have hl : A.length = need + 2 := by rw [hA]; simp; omega
  rw [← hA, List.set_append_right _ _ (by omega), show k - ml - 1 - A.length = 0 by omega]
  rfl
theorem enc_copy (k need ml : Nat) (P M : List Nat) (hk : k = need + ml + 3) (hP : P.length = need) (hM : M.length = ml) : ([0, 2] ++ P ++ List.replicate (ml + 1) 0).take (k - ml) ++ (M ++ ([0, 2] ++ P ++ List.replicate (ml + 1) 0).drop (k - ml + ml)) = [0, 2] ++ P ++ [0] ++ M := by
  have e : [0, 2] ++ P ++ List.replicate (ml + 1) 0 = ([0, 2] ++ P ++ [0]) ++ List.replicate ml 0 := by rw [List.replicate_succ]; simp
  rw [e, List.take_left' (by simp; omega), List.drop_of_length_le (by simp; omega), List.append_nil]
theorem enc_lt {m S : Nat} {T : List Nat} (hT : LtB T) (hl : T.length + 1 = S) (hS : S = (blen m + 7) / 8) (hm : 0 < m) : bval (0 :: T) < m := by
  have h1 : bval (0 :: T) = bval T := by
    have := bval_append [0] T
    simp [bval]
  have h2 := bval_lt hT
  have h3 := blen_le (n := m) (by omega)
  have h4 := blen_pos (n := m) (by omega)
  have h5 : (256 : Nat) ^ T.length ≤ 2 ^ (blen m - 1) := by
    rw [show (256 : Nat) = 2 ^ 8 from rfl, ← Nat.pow_mul]
    exact Nat.pow_le_pow_right (by omega) (by omega)
  omega

/-- What the sealing leaves: S bytes, or an error. -/
def EncR (e : Ending) (w' : World) (m ke ml nR : Nat) (M : List Nat) (tot : Option (List Nat × List Nat)) : Prop :=
  (1024 ≤ blen m ∧ ml + 11 ≤ (blen m + 7) / 8 ∧ ((blen m + 7) / 8 - ml - 3) ≤ nR ∧ ∃ P T, tot = some (P, T) ∧ P.length = (blen m + 7) / 8 - ml - 3 ∧ LtB P ∧ RetBytesN e w' ((blen m + 7) / 8) (bval ([0, 2] ++ P ++ [0] ++ M) ^ ke % m)) ∨
    ((blen m < 1024 ∨ (blen m + 7) / 8 < ml + 11 ∨ nR < (blen m + 7) / 8 - ml - 3 ∨ tot = none) ∧ ∃ x t v, e = .returned (.tuple #[x, .iface t v]))

set_option maxRecDepth 100000 in
set_option maxHeartbeats 4000000 in
theorem encPkcs_any (rp nR cR : Nat) (a : Option Addr) (R : List Nat) (pp pm pn ln pr lr n m ke : Nat) (aM : Option Addr) (ml mc : Nat) (M : List Nat) (w : World) (a0 a1 a2 a3 : Addr) (hg : Gl w a0 a1 a2 a3) (hr : RdV w rp a nR cR 0) (hs : SlB w a nR cR R) (hsz : nR ≤ 100000) (hrb : 4 ≤ rp)
    (hp : PubV w pp pm (ke : Int)) (hm : ModX w pm pn ln pr lr n m) (ho : PubOk m (ke : Int)) (hM : SlB w aM ml mc M) (hml : ml ≤ 100000) (hrp : rp ≠ pp ∧ rp ≠ pm ∧ rp ≠ pn ∧ rp ≠ ln ∧ rp ≠ pr ∧ rp ≠ lr) (hrM : M ≠ [] → ∀ s o, aM = some ⟨s, o, none⟩ → s ≠ rp) :
    Calls Tryd.prog 15 #[.iface 47 (.pointer (some ⟨rp, 0, none⟩)), .pointer (some ⟨pp, 0, none⟩), .slice aM ml mc] w fun e w' =>
      EncR e w' m ke ml nR M (fixAll (R.take ((blen m + 7) / 8 - ml - 3)) (R.drop ((blen m + 7) / 8 - ml - 3))) ∧ Keeps [rp] w w' := by
  obtain ⟨i0, hi, hz0, hz1, hz2⟩ := info_parts info_byte
  obtain ⟨odd, m0, rv, hb⟩ := hm.modB
  have hbl := blen_le_n hb.nat.lt
  have hn31 := hm.n31
  have hgt := hm.gt
  obtain ⟨S, hS⟩ : ∃ S, S = (blen m + 7) / 8 := ⟨_, rfl⟩
  have hSI : (((blen m + 7) / 8 : Nat) : Int) = (S : Int) := by omega
  have HS := Lib.hid hS
  have hSb : S ≤ 248 := by omega
  clear hS
  go_enter Tryd.func15, Tryd.ntmps15
  go_wp2_with fail
  refine (checkPublicKeySize_any pp pm pn ln pr lr n m (ke : Int) _ hp hm).mono ?_
  rintro e w1 ⟨⟨v, rfl, ⟨h1024, rfl⟩ | ⟨hlt, t, x, rfl⟩⟩, hk1⟩
  · go_wp2_with fail
    refine (pub_Size pp pm pn ln pr lr n m (ke : Int) _ (hp.kept hk1) (hm.kept hk1)).mono ?_
    rintro e w2 ⟨rfl, rfl⟩
    rw [hSI]
    clear hSI
    have g0 := (hg.keeps hk1 (by simp)).1
    by_cases hfit : ml + 11 ≤ S
    · have i1 : ¬ (S : Int) - 11 < (ml : Int) := by omega
      obtain ⟨need, hneed⟩ : ∃ need, need = S - ml - 3 := ⟨_, rfl⟩
      have hk : S = need + ml + 3 := by omega
      obtain ⟨wm, hmk, hown, hgr⟩ := run_make_full (P := Tryd.prog) w1 w1.heap.size 22 5 i0 (.int .u8 0) 1 und_bytes hi hz0 hz1 .i64 .i64 S (by rw [hz2]; omega) (by unfold maxLen; omega) (Nat.le_refl _)
      have hkm : Keeps [] w1 wm := (Keeps.refl [] w1).grown hgr (by simp)
      have hrow : RowB wm w1.heap.size (List.replicate S 0) := by
        rcases hown.2 with ⟨h, _⟩ | ⟨g, cap, cur, h, _, hc, _, _, hcs, htk⟩
        · simp at h
        · simp only [Value.slice.injEq, Option.some.injEq, Addr.mk.injEq, and_true, true_and] at h
          obtain ⟨rfl, rfl⟩ := h
          rw [Nat.mul_one] at hcs
          have e : cur = (u8s (List.replicate S 0)).toArray := by
            apply Array.ext'
            have h1 : cur.toList.take (S * 1) = cur.toList := List.take_of_length_le (by simp [hcs])
            rw [h1] at htk
            rw [htk, Nat.mul_one]
            show (madeCells #[Value.int .u8 0] S).toList = _
            rw [toList_madeCells_one]; simp [u8s]
          unfold RowB
          rw [hc, e]
      have c1 : wm.cell? ⟨w1.heap.size, 1, none⟩ = some (.int .u8 0) := hrow.cell (x := 0) (by rw [List.getElem?_replicate, if_pos (by omega)])
      have f1 := hrow.free 1
      have hrow1 : RowB (wm.setCell ⟨w1.heap.size, 1, none⟩ (.int .u8 2)) w1.heap.size ((List.replicate S 0).set 1 2) := hrow.set 1 2
      have hk2 : Keeps [] w (wm.setCell ⟨w1.heap.size, 1, none⟩ (.int .u8 2)) := (hk1.trans1 hkm).setCell (fun h => absurd h (by show ¬ (w1.heap.size < w.heap.size); have := hk1.size; omega)) _
      have hbig : 4 ≤ w1.heap.size := Nat.le_trans hg.size hk1.size
      have hnz := nonZero_all rp nR cR w1.heap.size 2 need (S - 2) a R ((List.replicate S 0).set 1 2) (wm.setCell ⟨w1.heap.size, 1, none⟩ (.int .u8 2)).drew a0 a1 a2 a3 (hg.keeps hk2.drew (by simp)) (hr.keeps hk2.drew (by simp)) (hs.kept hk2.drew) hsz hrow1.drew (by simp; omega) (by omega) (by omega) (fun hR0 s o e => by
        subst e
        obtain ⟨b', o', e', hlt, _⟩ := hs.2.2.2 hR0
        have h5 := hk1.size
        simp only [Option.some.injEq, Addr.mk.injEq, and_true] at e'
        omega) hrb hbig (by omega) (by omega)
      have HNZ := Lib.hid hnz; have HK2 := Lib.hid hk2.drew; have HNEED := Lib.hid hneed; have HKS := Lib.hid hk
      clear hnz hrow1 hk2 hrow hkm hown hgr
      have i2 : (2 : Int) ≤ (S : Int) - (ml : Int) - 1 := by omega
      have i3 : (S : Int) - (ml : Int) - 1 ≤ (S : Int) := by omega
      have i4 : (0 : Int) ≤ (S : Int) - (ml : Int) := by omega
      have i5 : ((S : Int) - (ml : Int) - 1).toNat = S - ml - 1 := by omega
      have i6 : ((S : Int) - (ml : Int)).toNat = S - ml := by omega
      have i7 : ¬ (S = 2) := by omega
      have i8 : (1 : Int) < (S : Int) := by omega
      have hnd : need < 2000 := by omega
      clear hneed hk
      go_wp2_with fail
      refine wp_region_txt [0,0,0,0,0,0,0,0,0,0,0,0,0,0,0,0,0] (fun _ => True) (by kernel_rfl) (by kernel_rfl) trivial ?_
      simp only [withMarks]
      repeat (first
        | ((with_reducible refine txt_v (v := ?_) ?_ ?_); (any_goals ((with_reducible refine Yl.mk ?_ ?_); rfl; intro w hSw; (go_simp <;> (try go_bits) <;> (repeat (first | rw [if_pos (by omega)] | rw [if_neg (by omega)])) <;> with_reducible rfl))); try simp only [Act.put, List.setIfInBounds_toArray, List.set_cons_zero, List.set_cons_succ])
        | ((with_reducible refine txt_u ?_ ?_); rfl; try simp only [Act.put, List.setIfInBounds_toArray, List.set_cons_zero, List.set_cons_succ])
        | ((with_reducible refine txt_l (v := ?_) ?_ ?_); (any_goals ((with_reducible refine Reads.mk ?_ ?_); rfl; (go_simp <;> (try go_bits) <;> (repeat (first | rw [if_pos (by omega)] | rw [if_neg (by omega)])) <;> with_reducible rfl))); try simp only [Act.put, List.setIfInBounds_toArray, List.set_cons_zero, List.set_cons_succ])
        | ((with_reducible refine txt_e ?_ ?_); rfl; intro K hK; go_simp; (first | (refine hK _ _ trivial ?_) | ((first | fail); dsimp only; refine hK _ _ trivial ?_)); clear hK K; try simp only [Act.put, List.setIfInBounds_toArray, List.set_cons_zero, List.set_cons_succ]))
      refine txt_nil ?_
      go_step
      go_step
      obtain ⟨pmm, hpmm⟩ : ∃ p : Option Addr, p = (if S = S - ml then some ⟨w1.heap.size, 0, none⟩ else some ⟨w1.heap.size, S - ml, none⟩) := ⟨_, rfl⟩
      rw [← hpmm, show S - (S - ml) = ml by omega, show S - ml - 1 - 2 = need by have := HNEED.out; omega]
      have HPM := Lib.hid hpmm
      clear hpmm
      go_wp2_with fail
      refine HNZ.out.mono ?_
      rintro e w4 ⟨⟨P, T, hle, htot, rfl, hrow4, hPl, hPt⟩ | ⟨hno, t, x, rfl⟩, hk4⟩
      · have hk5 : Keeps [rp] w w4 := (HK2.out.mono (by simp)).trans hk4 (by
          intro x hx hlt
          have := hk1.size
          simp at hx
          rcases hx with h | h
          · simp [h]
          · omega)
        rw [enc_row S need ml P HKS.out hPl] at hrow4
        have hget : ([0, 2] ++ P ++ List.replicate (ml + 1) 0)[S - ml - 1]? = some 0 := by
          have := HKS.out
          rw [List.getElem?_append_right (by simp; omega), List.getElem?_replicate, if_pos (by simp; omega)]
        have c5 := hrow4.cell hget
        have f5 := hrow4.free (S - ml - 1)
        have hrow5 : RowB (w4.setCell ⟨w1.heap.size, S - ml - 1, none⟩ (.int .u8 0)) w1.heap.size ([0, 2] ++ P ++ List.replicate (ml + 1) 0) := by
          have h := hrow4.set (S - ml - 1) 0
          rw [enc_set S need ml P HKS.out hPl] at h
          exact h
        have hw1 : w.heap.size ≤ w1.heap.size := hk1.size
        have hk6 : Keeps [rp] w (w4.setCell ⟨w1.heap.size, S - ml - 1, none⟩ (.int .u8 0)) := hk5.setCell (fun h => absurd h (by show ¬ (w1.heap.size < w.heap.size); omega)) _
        obtain ⟨F, hF⟩ : ∃ F, F = [0, 2] ++ P ++ [0] ++ M := ⟨_, rfl⟩
        have hcopy : ∃ w6, (∀ ty, (Builtin.copy_ #[22, 22] ty #[.slice pmm ml ml, .slice aM ml mc]).run Tryd.prog (w4.setCell ⟨w1.heap.size, S - ml - 1, none⟩ (.int .u8 0)) = .ok (.int .i64 (ml : Int)) w6) ∧ RowB w6 w1.heap.size F ∧ Keeps [w1.heap.size] (w4.setCell ⟨w1.heap.size, S - ml - 1, none⟩ (.int .u8 0)) w6 := by
          rcases Nat.eq_zero_or_pos ml with h0 | h0
          · refine ⟨_, fun ty => ?_, ?_, Keeps.refl _ _⟩
            · have h := run_copy_none (P := Tryd.prog) (w4.setCell ⟨w1.heap.size, S - ml - 1, none⟩ (.int .u8 0)) 22 22 ty 5 pmm aM ml ml ml mc und_bytes size_byte (by rw [h0]; rfl)
              rw [h, h0]
              rfl
            · have hM0 : M = [] := List.length_eq_zero_iff.1 (by rw [hM.1]; exact h0)
              rw [hF, hM0, List.append_nil]
              rw [h0] at hrow5 ⊢
              exact hrow5
          · obtain ⟨s2, o2, rfl, hs2, hB2⟩ := hM.2.2.2 (List.ne_nil_of_length_pos (by rw [hM.1]; omega))
            have hne : S ≠ S - ml := by omega
            have hpm : pmm = some ⟨w1.heap.size, S - ml, none⟩ := by rw [HPM.out, if_neg hne]
            obtain ⟨w6, h1, h2, h3⟩ := run_copy_bytes hrow5 s2 o2 (S - ml) ml ml ml mc ml (Nat.min_self ml).symm hM.1 (by have := HKS.out; simp; omega) (hB2.keeps hs2 hk6 (by simpa using hrM (List.ne_nil_of_length_pos (by rw [hM.1]; omega)) s2 o2 rfl))
            refine ⟨w6, fun ty => by rw [hpm]; exact h1 ty, ?_, h3⟩
            rw [enc_copy S need ml P M HKS.out hPl hM.1] at h2
            rw [hF]
            exact h2
        obtain ⟨w6, hcp, hrow6, hk7⟩ := hcopy
        have hk8 : Keeps [rp] w w6 := hk6.trans hk7 (by intro x hx hlt; simp at hx; omega)
        have hFl : LtB F := by
          rw [hF]
          intro z hz
          simp only [List.mem_append] at hz
          rcases hz with ((h | h) | h) | h
          · simp at h; omega
          · exact hPt z h
          · simp at h; omega
          · exact hM.2.2.1 z h
        have hFn : F.length = S := by
          have := HKS.out
          rw [hF]
          simp [hM.1, hPl]
          omega
        have hFm : bval F < m := by
          have e : F = 0 :: (2 :: P ++ [0] ++ M) := by rw [hF]; rfl
          rw [e]
          refine enc_lt (S := S) (fun z hz => hFl z (by rw [e]; exact List.mem_cons_of_mem _ hz)) ?_ HS.out (by omega)
          rw [← hFn, e]
          rfl
        have hE := rsaEncrypt_ok pp pm pn ln pr lr n m ke (some ⟨w1.heap.size, 0, none⟩) S S F w6 (hp.keeps hk8 (by simpa using Ne.symm hrp.1)) (hm.keeps hk8 (by simpa using Ne.symm hrp.2.1) (by simpa using Ne.symm hrp.2.2.1) (by simpa using Ne.symm hrp.2.2.2.1) (by simpa using Ne.symm hrp.2.2.2.2.1) (by simpa using Ne.symm hrp.2.2.2.2.2)) ho (hrow6.slB hFl hFn (Nat.le_refl _)) ⟨by have := HS.out; omega, hFm⟩ (by omega)
        rw [← HS.out] at hE
        have HE := Lib.hid hE; have HK8 := Lib.hid hk8; have HF := Lib.hid hF; have HT := Lib.hid htot
        clear hE hk8 hk7 hk6 hk5 hk4 hF hrow4 hrow5 hrow6 hget htot
        go_wp2_with fail
        refine HE.out.mono ?_
        rintro e w7 ⟨⟨B', O, rfl, q1, q2, q3, q4⟩, hk9⟩
        have HQ := Lib.hid q4; have HK9 := Lib.hid (HK8.out.trans hk9 (by simp))
        clear q4 hk9
        go_wp2_with fail
        go_ret2
        refine ⟨.inl ?_, HK9.out⟩
        rw [← HS.out, ← HNEED.out]
        exact ⟨h1024, hfit, hle, P, T, HT.out, hPl, hPt, B', O, rfl, q1, q2, by rw [q3, HF.out], HQ.out⟩
      · have hk5 : Keeps [rp] w w4 := (HK2.out.mono (by simp)).trans hk4 (by
          intro x hx hlt
          have := hk1.size
          simp at hx
          rcases hx with h | h
          · simp [h]
          · omega)
        have HK5 := Lib.hid hk5
        clear hk5 hk4
        go_wp2_with fail
        go_ret2
        refine ⟨.inr ⟨?_, _, _, _, rfl⟩, HK5.out⟩
        rw [← HS.out, ← HNEED.out]
        exact .inr (.inr hno)
    · have i1 : (S : Int) - 11 < (ml : Int) := by omega
      go_wp2_with fail
      refine wp_region_txt [1,0,0] (fun _ => True) (by kernel_rfl) (by kernel_rfl) trivial ?_
      simp only [withMarks]
      repeat (first
        | ((with_reducible refine txt_v (v := ?_) ?_ ?_); (any_goals ((with_reducible refine Yl.mk ?_ ?_); rfl; intro w hSw; (go_simp <;> (try go_bits) <;> (repeat (first | rw [if_pos (by omega)] | rw [if_neg (by omega)])) <;> with_reducible rfl))); try simp only [Act.put, List.setIfInBounds_toArray, List.set_cons_zero, List.set_cons_succ])
        | ((with_reducible refine txt_u ?_ ?_); rfl; try simp only [Act.put, List.setIfInBounds_toArray, List.set_cons_zero, List.set_cons_succ])
        | ((with_reducible refine txt_l (v := ?_) ?_ ?_); (any_goals ((with_reducible refine Reads.mk ?_ ?_); rfl; (go_simp <;> (try go_bits) <;> (repeat (first | rw [if_pos (by omega)] | rw [if_neg (by omega)])) <;> with_reducible rfl))); try simp only [Act.put, List.setIfInBounds_toArray, List.set_cons_zero, List.set_cons_succ])
        | ((with_reducible refine txt_e ?_ ?_); rfl; intro K hK; go_simp; (first | (refine hK _ _ trivial ?_) | ((first | fail); dsimp only; refine hK _ _ trivial ?_)); clear hK K; try simp only [Act.put, List.setIfInBounds_toArray, List.set_cons_zero, List.set_cons_succ]))
      refine txt_nil ?_
      go_wp2_with fail
      go_ret2
      exact ⟨.inr ⟨.inr (.inl (by rw [← HS.out]; omega)), _, _, _, rfl⟩, hk1.drew.mono (by simp)⟩
  · go_wp2_with fail
    go_ret2
    exact ⟨.inr ⟨.inl hlt, _, _, _, rfl⟩, hk1.mono (by simp)⟩

end Go.Proofs.YtnfjmngchapdnaaDoor
