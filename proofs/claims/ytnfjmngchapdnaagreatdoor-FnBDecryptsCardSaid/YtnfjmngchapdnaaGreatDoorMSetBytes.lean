import Derived.Test.YtnfjmngchapdnaaGreatDoorMNat
/- bigmod: setBytes. -/
namespace Go.Proofs.YtnfjmngchapdnaaGreatDoor
open Go.RowKit

theorem bigEndianUint_any (b o n c : Nat) (L : List Nat) (w : World) (hb : BAt w b o L) (hbl : b < w.heap.size) (hl : LtB L) (h8 : 8 ≤ L.length) (hn : 8 ≤ n) (hnc : n ≤ c) (hc : n ≤ 1000000) :
    Calls Tryz.prog 87 #[.slice (some ⟨b, o, none⟩) n c] w fun e w' =>
      e = .returned (.int .u64 ((bval (L.take 8) : Nat) : Int)) ∧ Keeps [] w w' := by
  have H := Lib.hid (beUint64_any b o n c L w hb hbl hl h8 hn hnc hc)
  clear hb hl h8
  generalize bval (L.take 8) = v at *
  go_enter Tryz.func87, Tryz.ntmps87
  go_wp2_with fail
  refine H.out.mono ?_
  rintro e w' ⟨rfl, hk⟩
  go_wp2
  go_ret
  exact ⟨rfl, hk⟩

theorem BAt.ne_row {w : World} {b o lb : Nat} {L M : List Nat} (h : BAt w b o L) (hL : L ≠ []) (hr : Row w lb M) : b ≠ lb := by
  rintro rfl
  have h0 := h 0 (List.length_pos_iff.2 hL)
  unfold Row at hr
  simp only [World.cell?, hr, Nat.add_zero] at h0
  simp only [u64s, Option.isSome_none, Bool.false_eq_true, if_false, List.getElem?_toArray, List.getElem?_map] at h0
  cases hM : M[o]? with
  | none => simp [hM] at h0
  | some y => simp [hM] at h0
theorem BAt.ne_hdr {w : World} {b o p lb n c : Nat} {L : List Nat} (h : BAt w b o L) (hL : L ≠ []) (hr : Hdr w p lb n c) : b ≠ p := by
  rintro rfl
  have h0 := h 0 (List.length_pos_iff.2 hL)
  unfold Hdr at hr
  simp only [World.cell?, hr, Nat.add_zero] at h0
  cases o with
  | zero => simp at h0
  | succ o => simp at h0

theorem bval_chunk (L : List Nat) (i k : Nat) (hi : 8 ≤ i) (him : i + 8 * k = L.length) : bval (L.drop (i - 8)) = bval (L.drop i) + BB ^ k * bval ((L.drop (i - 8)).take 8) := by
  have e : L.drop (i - 8) = (L.drop (i - 8)).take 8 ++ L.drop i := by
    conv => lhs; rw [← List.take_append_drop 8 (L.drop (i - 8))]
    rw [List.drop_drop, show i - 8 + 8 = i by omega]
  conv => lhs; rw [e]
  rw [bval_append, List.length_drop, show L.length - i = 8 * k by omega, Nat.pow_mul, show (256 : Nat) ^ 8 = BB from rfl, Nat.mul_comm, Nat.add_comm]
theorem bval_byte (L : List Nat) (i j : Nat) (hi : 0 < i) (hij : i + j = L.length) : bval (L.drop (i - 1)) = bval (L.drop i) + 256 ^ j * L[i - 1]'(by omega) := by
  have e : L.drop (i - 1) = [L[i - 1]'(by omega)] ++ L.drop i := by
    rw [List.drop_eq_getElem_cons (by omega), show i - 1 + 1 = i by omega]; rfl
  conv => lhs; rw [e]
  rw [bval_append, List.length_drop, show L.length - i = j by omega, Nat.mul_comm, Nat.add_comm]
  simp [bval]

theorem Row.kept' {w w' : World} {b : Nat} {L : List Nat} (h : Row w b L) (hk : Keeps [] w w') : Row w' b L := h.keeps hk (by simp)

theorem or_shift (x y t : Nat) (hx : x < 2 ^ (8 * t)) (hy : y < 256) (ht : t < 8) :
    ∃ z : Nat, Go.bits .or .u64 (x : Int) (IntKind.u64.wrap ((y : Int) * 2 ^ (8 * t))) = (z : Int) ∧ z = x + 256 ^ t * y ∧ z < 2 ^ (8 * (t + 1)) ∧ z < BB := by
  have e : (256 : Nat) ^ t = 2 ^ (8 * t) := by rw [Nat.pow_mul]
  have h1 : 2 ^ (8 * t) * (y + 1) ≤ 2 ^ (8 * t) * 256 := Nat.mul_le_mul_left _ hy
  have h2 : 2 ^ (8 * (t + 1)) = 2 ^ (8 * t) * 256 := by rw [show 8 * (t + 1) = 8 * t + 8 by omega, Nat.pow_add]
  have h3 : 2 ^ (8 * (t + 1)) ≤ BB := by rw [BB_eq]; exact Nat.pow_le_pow_right (by omega) (by omega)
  have hz : 2 ^ (8 * t) * y + x < 2 ^ (8 * (t + 1)) := by rw [h2]; rw [Nat.mul_add] at h1; omega
  have hlt : 2 ^ (8 * t) * y + x < BB := by omega
  have hb := bits_or_u64_nat x (2 ^ (8 * t) * y) (by unfold BB at hlt; omega) (by unfold BB at hlt; omega)
  rw [Nat.or_comm, ← Nat.two_pow_add_eq_or_of_lt hx] at hb
  have hw : IntKind.u64.wrap ((y : Int) * 2 ^ (8 * t)) = ((2 ^ (8 * t) * y : Nat) : Int) := by
    have e2 : ((y : Int) * 2 ^ (8 * t)) = ((2 ^ (8 * t) * y : Nat) : Int) := by rw [Int.natCast_mul, Int.natCast_pow]; exact Int.mul_comm _ _
    rw [e2, IntKind.wrap_u64]
    unfold BB at hlt
    omega
  rw [hw]
  exact ⟨2 ^ (8 * t) * y + x, hb, by rw [e]; omega, hz, hlt⟩

/-- An error. -/
def IsErr (v : Value) : Prop := ∃ t x, v = .iface t x

set_option maxHeartbeats 1000000 in
theorem errors_New (s : ByteArray) (w : World) : Calls Tryz.prog 56 #[.string s] w fun e w' => (∃ b : Nat, e = .returned (.iface 124 (.pointer (some ⟨b, 0, none⟩))) ∧ w'.heap[b]? = some (.cells #[.string s] 126 (0, 0)) ∧ w.heap.size ≤ b) ∧ Keeps [] w w' := by
  go_enter Tryz.func56, Tryz.ntmps56
  go_wp2
  go_ret
  refine ⟨⟨w.heap.size, rfl, ?_, Nat.le_refl _⟩, (Keeps.refl _ _).alloc _⟩
  show (w.heap.push _)[w.heap.size]? = _
  rw [Array.getElem?_push, if_pos rfl]

set_option maxRecDepth 100000 in
set_option maxHeartbeats 2000000 in
theorem nat_setBytes_ok (p lb n c b o m cb : Nat) (L : List Nat) (w : World) (hx : NatV w p lb n c 0) (hb : BAt w b o L) (hbl : b < w.heap.size) (hl : LtB L) (hm : L.length = m) (hmc : m ≤ cb) (hn : n ≤ 1000) (hfit : m ≤ 8 * n) (hne : L ≠ []) :
    Calls Tryz.prog 65 #[.pointer (some ⟨p, 0, none⟩), .slice (some ⟨b, o, none⟩) m cb] w fun e w' =>
      e = .returned .nilIface ∧ NatV w' p lb n c (bval L) ∧ Keeps [lb] w w' := by
  have g1 := hx.le
  have hne' := hx.ne
  obtain ⟨hh, L0, J, hL1, hL2, hL3, hL4, hL5⟩ := hx
  have hbr := hb.ne_row hne hL1
  have KL2 := Lib.hid hL2; have KL3 := Lib.hid hL3; have KL5 := Lib.hid hL5; have Km := Lib.hid hm; have Hb := Lib.hid hb; have Hl := Lib.hid hl
  have HZ : Hid (L0 = List.replicate n 0) := val_inj hL4 (Lt.replicate n) (by simpa using hL2) (by rw [hL5, val_replicate])
  clear hL2 hL3 hL5 hm hb hl
  have hmb : m ≤ 8000 := by omega
  go_enter Tryz.func65, Tryz.ntmps65
  go_wp2
  go_loopw [5, 6] (fun i kk wr => ∃ (j k : Nat) (X : List Nat), i = .int .i64 j ∧ kk = .int .i64 k ∧ j + 8 * k = m ∧ k ≤ n ∧ Hid (X.length = n) ∧ Lt X ∧ Row wr lb (X ++ J) ∧ Hdr wr p lb n c ∧ Hid (val X = bval (L.drop j)) ∧ Hid (X.drop k = List.replicate (n - k) 0) ∧ Keeps [lb] w wr) (fun i _ _ => (intOf i).toNat)
  case atStart => exact ⟨m, 0, L0, rfl, rfl, by omega, by omega, KL2, hL4, hL1, hh, by show _ = _; rw [KL5.out, List.drop_of_length_le (by rw [Km.out]; omega)]; rfl, by show _ = _; rw [HZ.out]; simp, Keeps.refl _ _⟩
  case round =>
    obtain ⟨j, k, X, rfl, rfl, hjk, hk, hXn, hXl, hX, hd, hv, hz, hkp⟩ := hrel
    have c1 := hd.cell
    by_cases hA : k < n ∧ 8 ≤ j
    · obtain ⟨hkn, hj8⟩ := hA
      have hXn' := hXn.out
      have f1 := hX.free k
      have cc := hX.cell k (by simp; omega)
      have hb' := (Hb.out.keeps hbl hkp (by simpa using hbr))
      have HB := Lib.hid (fun w' (hk' : Keeps [] wr w') => bigEndianUint_any b (o + (j - 8)) 8 (cb - (j - 8)) (L.drop (j - 8)) w' ((hb'.drop (j - 8)).keeps (Nat.lt_of_lt_of_le hbl hkp.size) hk' (by simp)) (Nat.lt_of_lt_of_le hbl (Nat.le_trans hkp.size hk'.size)) (fun x hx => Hl.out x (List.mem_of_mem_drop hx)) (by have := Km.out; simp; omega) (by omega) (by omega) (by omega))
      have hlt : bval ((L.drop (j - 8)).take 8) < BB := by
        have h2 := bval_lt (L := (L.drop (j - 8)).take 8) (fun x hx => Hl.out x (List.mem_of_mem_drop (List.mem_of_mem_take hx)))
        have h3 : ((L.drop (j - 8)).take 8).length = 8 := by have := Km.out; simp; omega
        rw [h3] at h2; exact h2
      have hch := bval_chunk L j k hj8 (by rw [Km.out]; exact hjk)
      obtain ⟨y, hy⟩ : ∃ y, y = bval ((L.drop (j - 8)).take 8) := ⟨_, rfl⟩
      rw [← hy] at HB hlt hch
      have Hch := Lib.hid hch; have Hlt := Lib.hid hlt
      have hXcl := hXn'
      clear hy hch hlt hb' hXn' hXcl cc
      have i1 : (k : Int) < (n : Int) := by omega
      have i2 : (8 : Int) ≤ (j : Int) := by omega
      have i3 : ¬ (cb = j - 8) := by omega
      have i7 : j - (j - 8) = 8 := by omega
      go_wp2_with fail
      refine wp_region_txt [0,0,0,0,0,0,0,0,0,0,2,0,2] (fun w' => w'.cell? ⟨p, 0, none⟩ = some (.slice (some ⟨lb, 0, none⟩) n c)) (by kernel_rfl) (by kernel_rfl) c1 ?_
      simp only [withMarks]
      repeat (first
        | ((with_reducible refine txt_v (v := ?_) ?_ ?_); (any_goals ((with_reducible refine Yl.mk ?_ ?_); rfl; intro w hSw; (go_simp <;> (try go_bits) <;> (repeat (first | rw [if_pos (by omega)] | rw [if_neg (by omega)])) <;> with_reducible rfl))); try simp only [Act.put, List.setIfInBounds_toArray, List.set_cons_zero, List.set_cons_succ])
        | ((with_reducible refine txt_u ?_ ?_); rfl; try simp only [Act.put, List.setIfInBounds_toArray, List.set_cons_zero, List.set_cons_succ])
        | ((with_reducible refine txt_l (v := ?_) ?_ ?_); (any_goals ((with_reducible refine Reads.mk ?_ ?_); rfl; (go_simp <;> (try go_bits) <;> (repeat (first | rw [if_pos (by omega)] | rw [if_neg (by omega)])) <;> with_reducible rfl))); try simp only [Act.put, List.setIfInBounds_toArray, List.set_cons_zero, List.set_cons_succ])
        | ((with_reducible refine txt_e ?_ ?_); rfl; intro K hK; go_simp; (first | (refine hK _ _ (by first | exact (hd.drew.keeps hk1 (by simp)).cell | exact ((hd.drew.keeps hk1 (by simp)).other (a := ⟨lb, k, none⟩) hne' _).cell) ?_) | ((first | (go_at_call 87; refine (HB.out _ ((Keeps.refl _ _).drew)).mono ?_; rintro e w1 ⟨rfl, hk1⟩; have f2 := (hX.drew.kept' hk1).free k; have cc := (hX.drew.kept' hk1).cell k (by have := hXn.out; simp; omega))); dsimp only; refine hK _ _ (by first | exact (hd.drew.keeps hk1 (by simp)).cell | exact ((hd.drew.keeps hk1 (by simp)).other (a := ⟨lb, k, none⟩) hne' _).cell) ?_)); clear hK K; try simp only [Act.put, List.setIfInBounds_toArray, List.set_cons_zero, List.set_cons_succ]))
      refine txt_nil ?_
      go_wp2
      have hXn' := hXn.out
      refine ⟨⟨j - 8, k + 1, X.set k y, by go_num, by go_num, by omega, by omega, by show _ = _; simp [hXn'], hXl.set _ _ Hlt.out, ?_, (hd.drew.keeps hk1 (by simp)).other (a := ⟨lb, k, none⟩) hne' _, ?_, ?_, ((hkp.drew.trans1 (hk1.mono (by simp))).setCell (by simp) _)⟩, by simp [intOf]; omega⟩
      · have := (hX.drew.kept' hk1).set k y
        rw [List.set_append_left _ _ (by omega)] at this; exact this
      · show _ = _
        rw [Hch.out]
        have h1 := val_set X k y (by omega)
        have h2 : X[k]'(by omega) = 0 := by
          have h3 := congrArg (fun l => l[0]?) hz.out
          simp only [List.getElem?_drop, Nat.add_zero, List.getElem?_replicate] at h3
          rw [if_pos (by omega), List.getElem?_eq_getElem (by omega)] at h3
          simpa using h3
        rw [h2, hv.out] at h1
        simpa using h1
      · show _ = _
        have h3 := congrArg (List.drop 1) hz.out
        rw [List.drop_drop, List.drop_replicate] at h3
        rw [List.drop_set_of_lt (by omega), h3, show n - k - 1 = n - (k + 1) by omega]
    · have hB : n ≤ k ∨ j < 8 := by omega
      have hXk : Hid (∀ h : k < X.length, X[k] = 0) := by
        intro h
        have h3 := congrArg (fun l => l[0]?) hz.out
        simp only [List.getElem?_drop, Nat.add_zero, List.getElem?_replicate] at h3
        rw [if_pos (by have := hXn.out; omega), List.getElem?_eq_getElem (by omega)] at h3
        simpa using h3
      clear hA hz
      by_cases hkn : k < n
      · have hj8 : j < 8 := by omega
        have i1 : (k : Int) < (n : Int) := by omega
        have i2 : ¬ (8 : Int) ≤ (j : Int) := by omega
        go_wp2
        go_loopw [5, 7] (fun i ss wq => ∃ (j2 t : Nat) (Y : List Nat), i = .int .i64 j2 ∧ ss = .int .i64 ((8 * t : Nat) : Int) ∧ j2 + t = j ∧ Hid (Y.length = n) ∧ Lt Y ∧ Row wq lb (Y ++ J) ∧ Hdr wq p lb n c ∧ Hid (val Y = bval (L.drop j2)) ∧ Hid (∀ h : k < Y.length, Y[k] < 2 ^ (8 * t)) ∧ Keeps [lb] w wq) (fun i _ _ => (intOf i).toNat)
        case atStart => exact ⟨j, 0, X, rfl, rfl, by omega, hXn, hXl, hX, hd, hv, by intro h; rw [hXk.out h]; simp, hkp⟩
        case round =>
          obtain ⟨j2, t, Y, rfl, rfl, hjt, hYn, hYl, hY, hd2, hv2, hlt2, hkp2⟩ := hrel
          have c2 := hd2.cell
          have k1 : ((8 * t : Nat) : Int) < 64 := by omega
          by_cases hj0 : 0 < j2
          · have i3 : (0 : Int) < (j2 : Int) := by omega
            have i4 : j2 - 1 < m := by omega
            have i5 : (j2 : Int) - 1 < (m : Int) := by omega
            have hYn' := hYn.out
            have f1 := hY.free k
            have cc := hY.cell k (by simp; omega)
            rw [List.getElem_append_left (by omega)] at cc
            have hYk := hlt2.out (by omega)
            have cb2 := (Hb.out.keeps hbl hkp2 (by simpa using hbr)) (j2 - 1) (by have := Km.out; omega)
            have hby := Hl.out.get (j2 - 1) (by have := Km.out; omega)
            have hbyte := bval_byte L j2 (8 * k + t) hj0 (by have := Km.out; omega)
            obtain ⟨y, hy⟩ : ∃ y, L[j2 - 1]'(by have := Km.out; omega) = y := ⟨_, rfl⟩
            obtain ⟨x, hx⟩ : ∃ x, Y[k]'(by have := hYn.out; omega) = x := ⟨_, rfl⟩
            rw [hy] at cb2 hby hbyte
            rw [hx] at cc hYk
            obtain ⟨z, hor, hz1, hz2, hz3⟩ := or_shift x y t hYk hby (by omega)
            have Hx := Lib.hid hx; have Hbyte := Lib.hid hbyte; have Hz1 := Lib.hid hz1; have Hz2 := Lib.hid hz2; have Hz3 := Lib.hid hz3
            clear hx hy hbyte hz1 hz2 hz3 hYk
            go_wp2_with fail
            refine wp_region_txt [0,0,0,1,0,0,1,0,0,0,0,1,0,0,0,0,0,2] (fun _ => True) (by kernel_rfl) (by kernel_rfl) trivial ?_
            simp only [withMarks]
            repeat (first
              | ((with_reducible refine txt_v (v := ?_) ?_ ?_); (any_goals ((with_reducible refine Yl.mk ?_ ?_); rfl; intro w hSw; (go_simp <;> (try go_bits) <;> (repeat (first | rw [if_pos (by omega)] | rw [if_neg (by omega)])) <;> with_reducible rfl))); try simp only [Act.put, List.setIfInBounds_toArray, List.set_cons_zero, List.set_cons_succ])
              | ((with_reducible refine txt_u ?_ ?_); rfl; try simp only [Act.put, List.setIfInBounds_toArray, List.set_cons_zero, List.set_cons_succ])
              | ((with_reducible refine txt_l (v := ?_) ?_ ?_); (any_goals ((with_reducible refine Reads.mk ?_ ?_); rfl; (go_simp <;> (try go_bits) <;> (repeat (first | rw [if_pos (by omega)] | rw [if_neg (by omega)])) <;> with_reducible rfl))); try simp only [Act.put, List.setIfInBounds_toArray, List.set_cons_zero, List.set_cons_succ])
              | ((with_reducible refine txt_e ?_ ?_); rfl; intro K hK; go_simp; (first | (refine hK _ _ trivial ?_) | ((first | fail); dsimp only; refine hK _ _ trivial ?_)); clear hK K; try simp only [Act.put, List.setIfInBounds_toArray, List.set_cons_zero, List.set_cons_succ]))
            refine txt_nil ?_
            go_wp2
            refine ⟨⟨j2 - 1, t + 1, Y.set k z, by go_num, by go_num, by omega, by show _ = _; simp [hYn'], hYl.set _ _ Hz3.out, ?_, (hd2.other (a := ⟨lb, k, none⟩) hne' _).drew, ?_, ?_, (hkp2.setCell (by simp) _).drew⟩, by simp [intOf]; omega⟩
            · have := (hY.set k z).drew
              rw [List.set_append_left _ _ (by omega)] at this; exact this
            · show _ = _
              rw [Hbyte.out]
              have h1 := val_set Y k z (by omega)
              rw [Hx.out, hv2.out, Hz1.out, Nat.mul_add] at h1
              have e3 : 256 ^ (8 * k + t) = BB ^ k * 256 ^ t := by rw [Nat.pow_add, Nat.pow_mul]; rfl
              rw [e3, Nat.mul_assoc]
              rw [Hz1.out]
              omega
            · intro h
              rw [List.getElem_set_self]
              exact Hz2.out
          · have hj00 : j2 = 0 := by omega
            subst hj00
            have i3 : ¬ (0 : Int) < ((0 : Nat) : Int) := by omega
            have hfin : NatV wr p lb n c (bval L) := ⟨hd2, Y, J, hY, hYn.out, by have := hYn.out; have := KL2.out; have := KL3.out; omega, hYl, by have := hv2.out; simpa using this⟩
            have Hfin := Lib.hid hfin
            clear hfin
            go_wp2
            go_ret
            exact ⟨rfl, Hfin.out, hkp2⟩
      · have hkn' : k = n := by omega
        have hj0 : j = 0 := by omega
        subst hkn' hj0
        have i1 : ¬ (k : Int) < (k : Int) := by omega
        have hfin : NatV wr p lb k c (bval L) := ⟨hd, X, J, hX, hXn.out, by have := hXn.out; have := KL2.out; have := KL3.out; omega, hXl, by have := hv.out; simpa using this⟩
        have Hfin := Lib.hid hfin
        clear hfin
        go_wp2
        refine wp_loop_once ?_
        go_wp2
        go_ret
        exact ⟨rfl, Hfin.out, hkp⟩

set_option maxRecDepth 100000 in
set_option maxHeartbeats 2000000 in
theorem nat_setBytes_err (p lb n c b o m cb : Nat) (L : List Nat) (w : World) (hx : NatV w p lb n c 0) (hb : BAt w b o L) (hbl : b < w.heap.size) (hl : LtB L) (hm : L.length = m) (hmc : m ≤ cb) (hn : n ≤ 1000) (hfit : 8 * n < m) (hm1 : m ≤ 8000) (hne : L ≠ []) :
    Calls Tryz.prog 65 #[.pointer (some ⟨p, 0, none⟩), .slice (some ⟨b, o, none⟩) m cb] w fun e w' =>
      (∃ v, e = .returned v ∧ IsErr v) ∧ Keeps [lb] w w' := by
  have g1 := hx.le
  have hne' := hx.ne
  obtain ⟨hh, L0, J, hL1, hL2, hL3, hL4, hL5⟩ := hx
  have hbr := hb.ne_row hne hL1
  have KL2 := Lib.hid hL2; have KL3 := Lib.hid hL3; have KL5 := Lib.hid hL5; have Km := Lib.hid hm; have Hb := Lib.hid hb; have Hl := Lib.hid hl
  have HZ : Hid (L0 = List.replicate n 0) := val_inj hL4 (Lt.replicate n) (by simpa using hL2) (by rw [hL5, val_replicate])
  clear hL2 hL3 hL5 hm hb hl
  go_enter Tryz.func65, Tryz.ntmps65
  go_wp2
  go_loopw [5, 6] (fun i kk wr => ∃ (j k : Nat) (X : List Nat), i = .int .i64 j ∧ kk = .int .i64 k ∧ j + 8 * k = m ∧ k ≤ n ∧ Hid (X.length = n) ∧ Lt X ∧ Row wr lb (X ++ J) ∧ Hdr wr p lb n c ∧ Keeps [lb] w wr) (fun i _ _ => (intOf i).toNat)
  case atStart => exact ⟨m, 0, L0, rfl, rfl, by omega, by omega, KL2, hL4, hL1, hh, Keeps.refl _ _⟩
  case round =>
    obtain ⟨j, k, X, rfl, rfl, hjk, hk, hXn, hXl, hX, hd, hkp⟩ := hrel
    have c1 := hd.cell
    by_cases hA : k < n ∧ 8 ≤ j
    · obtain ⟨hkn, hj8⟩ := hA
      have hXn' := hXn.out
      have f1 := hX.free k
      have cc := hX.cell k (by simp; omega)
      have hb' := (Hb.out.keeps hbl hkp (by simpa using hbr))
      have HB := Lib.hid (fun w' (hk' : Keeps [] wr w') => bigEndianUint_any b (o + (j - 8)) 8 (cb - (j - 8)) (L.drop (j - 8)) w' ((hb'.drop (j - 8)).keeps (Nat.lt_of_lt_of_le hbl hkp.size) hk' (by simp)) (Nat.lt_of_lt_of_le hbl (Nat.le_trans hkp.size hk'.size)) (fun x hx => Hl.out x (List.mem_of_mem_drop hx)) (by have := Km.out; simp; omega) (by omega) (by omega) (by omega))
      have hlt : bval ((L.drop (j - 8)).take 8) < BB := by
        have h2 := bval_lt (L := (L.drop (j - 8)).take 8) (fun x hx => Hl.out x (List.mem_of_mem_drop (List.mem_of_mem_take hx)))
        have h3 : ((L.drop (j - 8)).take 8).length = 8 := by have := Km.out; simp; omega
        rw [h3] at h2; exact h2
      have hch := bval_chunk L j k hj8 (by rw [Km.out]; exact hjk)
      obtain ⟨y, hy⟩ : ∃ y, y = bval ((L.drop (j - 8)).take 8) := ⟨_, rfl⟩
      rw [← hy] at HB hlt hch
      have Hch := Lib.hid hch; have Hlt := Lib.hid hlt
      have hXcl := hXn'
      clear hy hch hlt hb' hXn' hXcl cc
      have i1 : (k : Int) < (n : Int) := by omega
      have i2 : (8 : Int) ≤ (j : Int) := by omega
      have i3 : ¬ (cb = j - 8) := by omega
      have i7 : j - (j - 8) = 8 := by omega
      go_wp2_with fail
      refine wp_region_txt [0,0,0,0,0,0,0,0,0,0,2,0,2] (fun w' => w'.cell? ⟨p, 0, none⟩ = some (.slice (some ⟨lb, 0, none⟩) n c)) (by kernel_rfl) (by kernel_rfl) c1 ?_
      simp only [withMarks]
      repeat (first
        | ((with_reducible refine txt_v (v := ?_) ?_ ?_); (any_goals ((with_reducible refine Yl.mk ?_ ?_); rfl; intro w hSw; (go_simp <;> (try go_bits) <;> (repeat (first | rw [if_pos (by omega)] | rw [if_neg (by omega)])) <;> with_reducible rfl))); try simp only [Act.put, List.setIfInBounds_toArray, List.set_cons_zero, List.set_cons_succ])
        | ((with_reducible refine txt_u ?_ ?_); rfl; try simp only [Act.put, List.setIfInBounds_toArray, List.set_cons_zero, List.set_cons_succ])
        | ((with_reducible refine txt_l (v := ?_) ?_ ?_); (any_goals ((with_reducible refine Reads.mk ?_ ?_); rfl; (go_simp <;> (try go_bits) <;> (repeat (first | rw [if_pos (by omega)] | rw [if_neg (by omega)])) <;> with_reducible rfl))); try simp only [Act.put, List.setIfInBounds_toArray, List.set_cons_zero, List.set_cons_succ])
        | ((with_reducible refine txt_e ?_ ?_); rfl; intro K hK; go_simp; (first | (refine hK _ _ (by first | exact (hd.drew.keeps hk1 (by simp)).cell | exact ((hd.drew.keeps hk1 (by simp)).other (a := ⟨lb, k, none⟩) hne' _).cell) ?_) | ((first | (go_at_call 87; refine (HB.out _ ((Keeps.refl _ _).drew)).mono ?_; rintro e w1 ⟨rfl, hk1⟩; have f2 := (hX.drew.kept' hk1).free k; have cc := (hX.drew.kept' hk1).cell k (by have := hXn.out; simp; omega))); dsimp only; refine hK _ _ (by first | exact (hd.drew.keeps hk1 (by simp)).cell | exact ((hd.drew.keeps hk1 (by simp)).other (a := ⟨lb, k, none⟩) hne' _).cell) ?_)); clear hK K; try simp only [Act.put, List.setIfInBounds_toArray, List.set_cons_zero, List.set_cons_succ]))
      refine txt_nil ?_
      go_wp2
      have hXn' := hXn.out
      refine ⟨⟨j - 8, k + 1, X.set k y, by go_num, by go_num, by omega, by omega, by show _ = _; simp [hXn'], hXl.set _ _ Hlt.out, ?_, (hd.drew.keeps hk1 (by simp)).other (a := ⟨lb, k, none⟩) hne' _, ((hkp.drew.trans1 (hk1.mono (by simp))).setCell (by simp) _)⟩, by simp [intOf]; omega⟩
      · have := (hX.drew.kept' hk1).set k y
        rw [List.set_append_left _ _ (by omega)] at this; exact this
    · have hkn' : k = n := by omega
      subst hkn'
      have hj0 : 0 < j := by omega
      have i1 : ¬ (k : Int) < (k : Int) := by omega
      have i3 : (0 : Int) < (j : Int) := by omega
      clear hA
      go_wp2
      refine wp_loop_once ?_
      go_wp2_with fail
      refine (errors_New _ _).mono ?_
      rintro e w1 ⟨⟨eb, rfl, he1, he2⟩, hk1⟩
      have hkk := hkp.trans1 (hk1.mono (by simp))
      clear he1
      go_wp2
      go_ret
      exact ⟨⟨_, rfl, _, _, rfl⟩, hkk⟩

set_option maxRecDepth 100000 in
set_option maxHeartbeats 1000000 in
theorem nat_setBytes_nil (p lb n c cb v : Nat) (a : Option Addr) (w : World) (hx : NatV w p lb n c v) (hn : n ≤ 1000) :
    Calls Tryz.prog 65 #[.pointer (some ⟨p, 0, none⟩), .slice a 0 cb] w fun e w' =>
      e = .returned .nilIface ∧ w = w' := by
  have c1 := hx.hdr.cell
  have i1 : ¬ (8 : Int) ≤ 0 := by omega
  go_enter Tryz.func65, Tryz.ntmps65
  by_cases h0 : 0 < n
  · have i2 : (0 : Int) < (n : Int) := by omega
    go_wp2
    refine wp_loop_once ?_
    go_wp2
    refine wp_loop_once ?_
    go_wp2
    go_ret
    exact ⟨rfl, rfl⟩
  · have i2 : ¬ (0 : Int) < (n : Int) := by omega
    go_wp2
    refine wp_loop_once ?_
    go_wp2
    refine wp_loop_once ?_
    go_wp2
    go_ret
    exact ⟨rfl, rfl⟩

end Go.Proofs.YtnfjmngchapdnaaGreatDoor

/- bigmod: addMulVVW. -/
namespace Go.Proofs.YtnfjmngchapdnaaGreatDoor
open Go.RowKit

theorem mul_le_sq {x y : Nat} (hx : x < BB) (hy : y < BB) : x * y + 2 * BB ≤ BB * BB + 1 := by
  have h1 : x * y ≤ (BB - 1) * (BB - 1) := Nat.mul_le_mul (by omega) (by omega)
  have h2 : BB * BB = (BB - 1) * (BB - 1) + 2 * BB - 1 := by
    obtain ⟨b, hb⟩ : ∃ b, BB = b + 1 := ⟨BB - 1, by have := BB_pos; omega⟩
    rw [hb]
    simp only [Nat.add_sub_cancel, Nat.add_mul, Nat.mul_add, Nat.one_mul, Nat.mul_one]
    omega
  have := BB_pos
  omega

theorem lt_of_mul {h P B l : Nat} (he : l + h * B = P) (hP : P < B * B) : h < B := by
  rcases Nat.lt_or_ge h B with h1 | h1
  · exact h1
  · have : B * B ≤ h * B := Nat.mul_le_mul_right _ h1
    omega
theorem carry_zero {a d s B : Nat} (he : s + d * B = a) (ha : a < B) (hd : d ≤ 1) : d = 0 ∧ s = a := by
  have d01 : d = 0 ∨ d = 1 := by omega
  rcases d01 with rfl | rfl
  · simp at he; exact ⟨rfl, he⟩
  · omega
theorem mul_step {x y z cr h1 l1 l2 c2 h2 d2 l3 c3 h3 d3 : Nat} (hx : x < BB) (hy : y < BB) (hz : z < BB) (hc : cr < BB) (m : MulR x y h1 l1) (a1 : AddR l1 z 0 l2 c2) (a2 : AddR h1 0 c2 h2 d2)
    (a3 : AddR l2 cr 0 l3 c3) (a4 : AddR h2 0 c3 h3 d3) : l3 + h3 * BB = z + cr + x * y := by
  have e0 := m.eq; have e1 := a1.eq; have e2 := a2.eq; have e3 := a3.eq; have e4 := a4.eq
  have b4 := a1.le; have b6 := a2.le; have b8 := a3.le; have b10 := a4.le
  have hP := mul_le_sq hx hy
  have hB : BB ≤ BB * BB := Nat.le_mul_of_pos_left _ BB_pos
  -- the first two: h1 + c2 is one word
  have f1 : l2 + (h1 + c2) * BB = z + x * y := by rw [Nat.add_mul]; omega
  have g1 : h1 + c2 < BB := lt_of_mul f1 (by omega)
  obtain ⟨rfl, q1⟩ := carry_zero e2 (by omega) b6
  have f2 : l3 + (h2 + c3) * BB = z + cr + x * y := by
    rw [Nat.add_mul, q1]
    simp only [Nat.add_zero] at f1 ⊢
    omega
  have g2 : h2 + c3 < BB := lt_of_mul f2 (by omega)
  obtain ⟨rfl, q2⟩ := carry_zero e4 (by omega) b10
  rw [q2]
  simpa using f2

set_option maxRecDepth 100000 in
set_option maxHeartbeats 2000000 in
theorem addMulVVW_any (tb i n cz lx cx y : Nat) (A Z C X J : List Nat) (w : World) (hT : Row w tb (A ++ (Z ++ C))) (hA : A.length = i) (hZ : Z.length = n) (hZl : Lt Z) (hX : Row w lx (X ++ J)) (hXn : X.length = n) (hXl : Lt X)
    (hne : tb ≠ lx) (hy : y < BB) (hn0 : 0 < n) (hn : n ≤ 1000) :
    Calls Tryz.prog 99 #[.slice (some ⟨tb, i, none⟩) n cz, .slice (some ⟨lx, 0, none⟩) n cx, .int .u64 (y : Int)] w fun e w' =>
      ∃ (c : Nat), e = .returned (.int .u64 (c : Int)) ∧ c < BB ∧ ∃ Z' : List Nat, Z'.length = n ∧ Lt Z' ∧ Row w' tb (A ++ (Z' ++ C)) ∧ val Z' + c * BB ^ n = val Z + val X * y ∧ Keeps [tb] w w' := by
  have KZ := Lib.hid hZ; have KX := Lib.hid hXn; have KA := Lib.hid hA
  obtain ⟨vl, hlast⟩ : ∃ v, w.cell? ⟨lx, n - 1, none⟩ = some (.int .u64 (v : Nat)) := ⟨_, hX.cell (n - 1) (by simp; omega)⟩
  have i1 : (0 : Int) ≤ (n : Int) - 1 := by omega
  have i2 : (n : Int) - 1 < (n : Int) := by omega
  clear hZ hXn hA
  go_enter Tryz.func99, Tryz.ntmps99
  go_wp2
  clear hlast
  go_loopw [6, 19] (fun cc kk wr => ∃ (k c : Nat) (Y : List Nat), kk = .int .i64 k ∧ cc = .int .u64 c ∧ k ≤ n ∧ c < BB ∧ Hid (Y.length = n) ∧ Lt Y ∧ Row wr tb (A ++ (Y ++ C)) ∧ Hid (Y.drop k = Z.drop k) ∧ Hid (val Y + c * BB ^ k = val Z + val (X.take k) * y) ∧ Keeps [tb] w wr) (fun _ kk _ => n - (intOf kk).toNat)
  case atStart => exact ⟨0, 0, Z, rfl, rfl, by omega, BB_pos, KZ, hZl, hT, rfl, by show _ = _; simp [val], Keeps.refl _ _⟩
  case round =>
    obtain ⟨k, c, Y, rfl, rfl, hk, hc, hYn, hYl, hY, hd, hv, hkp⟩ := hrel
    by_cases hlt : k < n
    · have hYn' := hYn.out
      have hA' := KA.out
      have hX' := KX.out
      have hZ' := KZ.out
      have c1 := hY.cell (i + k) (by simp; omega)
      have f1 := hY.free (i + k)
      have c2 := (hX.keeps hkp (by simpa using Ne.symm hne)).cell k (by simp; omega)
      rw [List.getElem_append_left (by omega)] at c2
      have e1 : (A ++ (Y ++ C))[i + k]'(by simp; omega) = Y[k]'(by omega) := by
        rw [List.getElem_append_right (by omega), List.getElem_append_left (by omega)]
        congr 1; omega
      rw [e1] at c1
      have b1 := hYl.get k (by omega)
      have b2 := hXl.get k (by omega)
      have hset : (A ++ (Y ++ C)).set (i + k) = fun s => A ++ (Y.set k s ++ C) := by
        funext s
        rw [List.set_append_right _ _ (by omega), List.set_append_left _ _ (by omega), show i + k - A.length = k by omega]
      have hz0 : Y[k]'(by omega) = Z[k]'(by omega) := by
        have := congrArg (fun l => l[0]?) hd.out
        simp [List.getElem?_drop] at this
        rw [List.getElem?_eq_getElem (by omega), List.getElem?_eq_getElem (by omega)] at this
        simpa using this
      have hvs := fun s => val_set Y k s (by omega)
      have hts := val_take_succ X k (by omega)
      obtain ⟨zk, hzk⟩ : ∃ x, Y[k]'(by omega) = x := ⟨_, rfl⟩
      obtain ⟨xk, hxk⟩ : ∃ x, X[k]'(by omega) = x := ⟨_, rfl⟩
      rw [hzk] at c1 b1
      rw [hxk] at c2 b2 hts
      simp only [hzk] at hvs
      have Hset := Lib.hid hset; have Hvs := Lib.hid hvs; have Hts := Lib.hid hts
      clear e1 hset hz0 hvs hts hzk hxk hYn' hA' hX' hZ'
      have i3 : (k : Int) < (n : Int) := by omega
      go_wp2_with fail
      refine (mul_any _ _ b2 hy _).mono ?_
      rintro e w1 ⟨h1, l1, rfl, hM, rfl⟩
      go_wp2_with fail
      refine (add_any_z _ _ hM.lt b1 _).mono ?_
      rintro e w1 ⟨l2, c2', rfl, hA1, rfl⟩
      go_wp2_with fail
      refine (add_any_zc _ _ hM.lt' hA1.le _).mono ?_
      rintro e w1 ⟨h2, d2, rfl, hA2, rfl⟩
      go_wp2_with fail
      refine (add_any_z _ _ hA1.lt hc _).mono ?_
      rintro e w1 ⟨l3, c3, rfl, hA3, rfl⟩
      go_wp2_with fail
      refine (add_any_zc _ _ hA2.lt hA3.le _).mono ?_
      rintro e w1 ⟨h3, d3, rfl, hA4, rfl⟩
      go_wp2
      have hms := mul_step b2 hy b1 hc hM hA1 hA2 hA3 hA4
      have hYn' := hYn.out
      refine ⟨⟨k + 1, h3, Y.set k l3, by go_num, rfl, by omega, hA4.lt, by show _ = _; simp [hYn'], hYl.set _ _ hA3.lt, ?_, ?_, ?_, hkp.setCell (by simp) _⟩, by simp [intOf]; omega⟩
      · have := hY.set (i + k) l3
        rw [Hset.out] at this; exact this
      · show _ = _
        have := congrArg (List.drop 1) hd.out
        rw [List.drop_set_of_lt (by omega)]
        simpa [List.drop_drop, Nat.add_comm] using this
      · show _ = _
        have h5 := hv.out
        have h6 := Hvs.out l3
        rw [Hts.out, Nat.add_mul, Nat.mul_assoc]
        have h7 := congrArg (BB ^ k * ·) hms
        simp only [Nat.mul_add] at h7
        have e2 : h3 * BB ^ (k + 1) = BB ^ k * (h3 * BB) := by
          rw [Nat.pow_succ, ← Nat.mul_assoc, Nat.mul_comm h3, Nat.mul_assoc]
        have e3 : c * BB ^ k = BB ^ k * c := Nat.mul_comm _ _
        rw [e2]
        rw [e3] at h5
        omega
    · have hkn : k = n := by omega
      subst hkn
      have i3 : ¬ (k : Int) < (k : Int) := by omega
      go_wp2
      go_ret
      refine ⟨c, rfl, hc, Y, hYn.out, hYl, hY, ?_, hkp⟩
      have := hv.out
      rw [List.take_of_length_le (by have := KX.out; omega)] at this
      exact this

end Go.Proofs.YtnfjmngchapdnaaGreatDoor
