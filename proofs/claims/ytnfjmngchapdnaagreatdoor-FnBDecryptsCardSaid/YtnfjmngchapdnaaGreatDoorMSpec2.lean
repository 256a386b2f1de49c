import Derived.Test.YtnfjmngchapdnaaGreatDoorMLRest
import Derived.Test.YtnfjmngchapdnaaGreatDoorMRowB
import Derived.Test.YtnfjmngchapdnaaGreatDoorMPubOf
/- spec: BWidth, BGreat, LBytes. -/
namespace Go.Proofs.YtnfjmngchapdnaaGreatDoor
open Go.RowKit

theorem blen_bval_le {L : List Nat} {k : Nat} (h : LtB L) (hk : L.length ≤ k) : blen (bval L) ≤ 8 * k := by
  refine blen_le_of_lt ?_
  have h2 : (256 : Nat) ^ L.length ≤ 256 ^ k := Nat.pow_le_pow_right (by omega) hk
  have h3 : (256 : Nat) ^ k = 2 ^ (8 * k) := (Nat.pow_mul 2 8 k).symm
  rw [← h3]
  exact Nat.lt_of_lt_of_le (bval_lt h) h2

theorem key0 (w : World) (C : Array Value) (v : Value) (h : C[0]? = some v) : (w.alloc (.cells C 24)).cell? ⟨w.heap.size, 0, none⟩ = some v := by rw [alloc_cell]; exact h

set_option maxRecDepth 100000 in
set_option maxHeartbeats 2000000 in
theorem bWidth_any (a : Option Addr) (m cb : Nat) (L : List Nat) (E : Int) (a2 a3 a4 a5 a6 a7 : Option Addr) (n2 c2 n3 c3 n4 c4 n5 c5 n6 c6 n7 c7 : Nat) (w : World) (hs : SlB w a m cb L) (hm : m ≤ 240) :
    Calls Tryz.prog 6 #[.agg #[.slice a m cb, .int .i64 E, .slice a2 n2 c2, .slice a3 n3 c3, .slice a4 n4 c4, .slice a5 n5 c5, .slice a6 n6 c6, .slice a7 n7 c7]] w fun e w' => e = .returned (.int .i64 (((blen (bval L) + 7) / 8 : Nat) : Int)) ∧ Keeps [] w w' := by
  have hk0 : Keeps [] w (w.alloc (.cells #[Value.slice a m cb, .int .i64 E, .slice a2 n2 c2, .slice a3 n3 c3, .slice a4 n4 c4, .slice a5 n5 c5, .slice a6 n6 c6, .slice a7 n7 c7] 24)) := (Keeps.refl _ _).alloc _
  obtain ⟨s, hcv, hsb, hss⟩ := convert_bytes (hs.kept hk0)
  have HK := Lib.hid hk0; have HSB := Lib.hid hsb
  have hbl : blen (bval L) ≤ 1920 := blen_bval_le (k := 240) hs.2.2.1 (by rw [hs.1]; exact hm)
  clear hk0 hsb
  go_enter Tryz.func6, Tryz.ntmps6
  go_wp2_with fail
  refine (lOf_any s _ (by omega)).mono ?_
  rintro e w1 ⟨⟨b, n, c, M, rfl, hN, hv, hb, hn⟩, hk1⟩
  have HV := Lib.hid hv
  clear hv
  go_wp2_with fail
  refine (lBits_any b n c M _ hN (by omega)).mono ?_
  rintro e w2 ⟨rfl, rfl⟩
  rw [HV.out, HSB.out]
  go_wp2_with fail
  go_ret
  exact ⟨by go_num, HK.out.trans1 hk1⟩

set_option maxRecDepth 100000 in
set_option maxHeartbeats 2000000 in
theorem bGreat_any (a : Option Addr) (m cb : Nat) (L : List Nat) (E : Int) (a2 a3 a4 a5 a6 a7 : Option Addr) (n2 c2 n3 c3 n4 c4 n5 c5 n6 c6 n7 c7 : Nat) (w : World) (hs : SlB w a m cb L) (hm : m ≤ 240) :
    Calls Tryz.prog 18 #[.agg #[.slice a m cb, .int .i64 E, .slice a2 n2 c2, .slice a3 n3 c3, .slice a4 n4 c4, .slice a5 n5 c5, .slice a6 n6 c6, .slice a7 n7 c7]] w fun e w' => Says e (1024 ≤ blen (bval L)) ∧ Keeps [] w w' := by
  have hk0 : Keeps [] w (w.alloc (.cells #[Value.slice a m cb, .int .i64 E, .slice a2 n2 c2, .slice a3 n3 c3, .slice a4 n4 c4, .slice a5 n5 c5, .slice a6 n6 c6, .slice a7 n7 c7] 24)) := (Keeps.refl _ _).alloc _
  obtain ⟨s, hcv, hsb, hss⟩ := convert_bytes (hs.kept hk0)
  have HK := Lib.hid hk0; have HSB := Lib.hid hsb
  clear hk0 hsb
  go_enter Tryz.func18, Tryz.ntmps18
  go_wp2_with fail
  refine (lOf_any s _ (by omega)).mono ?_
  rintro e w1 ⟨⟨b, n, c, M, rfl, hN, hv, hb, hn⟩, hk1⟩
  have HV := Lib.hid hv
  clear hv
  go_wp2_with fail
  refine (lBits_any b n c M _ hN (by omega)).mono ?_
  rintro e w2 ⟨rfl, rfl⟩
  rw [HV.out, HSB.out]
  by_cases h : 1024 ≤ blen (bval L)
  · have h' : (1024 : Int) ≤ (blen (bval L) : Int) := by omega
    go_wp2_with fail
    go_ret
    exact ⟨Says.yes h, HK.out.trans1 hk1⟩
  · have h' : decide ((1024 : Int) ≤ (blen (bval L) : Int)) = false := decide_eq_false (by omega)
    go_wp2_with fail
    go_ret
    exact ⟨Says.no h, HK.out.trans1 hk1⟩

theorem byte_eq {L : List Nat} {q x r : Nat} (hl : Lt32 L) (hx : L[q]? = some x) (hr : r < 4) : val32 L / 256 ^ (4 * q + r) % 256 = x / 2 ^ (8 * r) % 256 := by
  have hq : q < L.length := by
    rcases Nat.lt_or_ge q L.length with h | h
    · exact h
    · rw [List.getElem?_eq_none h] at hx; simp at hx
  have h1 := val32_split L q hq
  have h2 := val32_take_lt hl q (by omega)
  rw [List.getElem?_eq_getElem hq] at hx
  simp only [Option.some.injEq] at hx
  rw [hx] at h1
  have e1 : (256 : Nat) ^ (4 * q) = W32 ^ q := by rw [Nat.pow_mul]; rfl
  have e2 : (256 : Nat) ^ r = 2 ^ (8 * r) := by rw [Nat.pow_mul]
  rw [Nat.pow_add, e1, ← Nat.div_div_eq_div_mul, h1, Nat.add_mul_div_left _ _ (Nat.pow_pos (by decide)), Nat.div_eq_of_lt h2, Nat.zero_add, e2]
  have e3 : W32 = 2 ^ (8 * r) * (256 * 2 ^ (24 - 8 * r)) := by
    have : (256 : Nat) = 2 ^ 8 := rfl
    rw [this, ← Nat.pow_add, ← Nat.pow_add, show 8 * r + (8 + (24 - 8 * r)) = 32 by omega]
    rfl
  have e4 : W32 * val32 (L.drop (q + 1)) = 2 ^ (8 * r) * (256 * (2 ^ (24 - 8 * r) * val32 (L.drop (q + 1)))) := by
    rw [e3, Nat.mul_assoc, Nat.mul_assoc]
  rw [e4, Nat.add_mul_div_left _ _ (Nat.pow_pos (by omega)), Nat.add_mul_mod_self_left]

theorem bval_zeros (k : Nat) : bval (List.replicate k 0) = 0 := by
  induction k with
  | zero => rfl
  | succ k ih => rw [List.replicate_succ', bval_append, ih]; rfl
/-- A text that was returned, and true. -/
def RetText (e : Ending) (many v : Nat) : Prop := ∃ s : ByteArray, e = .returned (.tuple #[.string s, .bool true]) ∧ (bytesOf s).length = many ∧ bval (bytesOf s) = v

set_option maxRecDepth 100000 in
set_option maxHeartbeats 4000000 in
theorem lBytes_any (ax : Option Addr) (nx cx many : Nat) (X : List Nat) (w : World) (hX : N32 w ax nx cx X) (hnx : nx ≤ 400) (hmany : many ≤ 1000) (hv : val32 X < 256 ^ many) :
    Calls Tryz.prog 20 #[.slice ax nx cx, .int .i64 (many : Int)] w fun e w' => RetText e many (val32 X) ∧ Keeps [] w w' := by
  obtain ⟨wm, hmk, hrow, hkm⟩ := run_make_bytes w many (by omega)
  have HROW := Lib.hid hrow; have HKM := Lib.hid hkm; have HX := Lib.hid hX
  clear hrow hkm
  obtain ⟨V, hV⟩ : ∃ V, V = val32 X := ⟨_, rfl⟩
  rw [← hV] at hv ⊢
  have HV := Lib.hid hV
  clear hV hX
  go_enter Tryz.func20, Tryz.ntmps20
  go_wp2_with fail
  clear hmk
  go_loopg [7] (4 * nx) (fun gn iv wx => ∃ (i : Nat) (O : List Nat), gn = 4 * nx - i ∧ iv = .int .i64 (i : Int) ∧ i ≤ 4 * nx ∧ Hid (O.length = many) ∧ Hid (LtB O) ∧ Hid (RowB wx w.heap.size O) ∧ Hid (bval (O.drop (many - i)) = V % 256 ^ i) ∧ Hid (O.take (many - i) = List.replicate (many - i) 0) ∧ Hid (Keeps [] w wx))
  case atStart => exact ⟨0, List.replicate many 0, by omega, by go_num, by omega, Lib.hid (by simp), Lib.hid (fun x hx => by have := (List.mem_replicate.1 hx).2; subst this; decide), HROW, Lib.hid (by rw [List.drop_of_length_le (by simp)]; simp [bval, Nat.mod_one]), Lib.hid (by rw [List.take_of_length_le (by simp)]; simp), HKM⟩
  case round =>
    obtain ⟨i, O, hgi, rfl, hin, hOl, hOt, hO, hOv, hOz, hK⟩ := hrel
    by_cases hlt : i < 4 * nx
    · have i1 : (i : Int) < 4 * (nx : Int) := by omega
      obtain ⟨q, hq⟩ : ∃ q, q = i / 4 := ⟨_, rfl⟩
      obtain ⟨r, hr⟩ : ∃ r, r = i % 4 := ⟨_, rfl⟩
      have hqn : q < X.length := by rw [HX.out.1]; omega
      obtain ⟨x, hx⟩ := some_get hqn
      have hxl := (get_lt HX.out.2.2.1 hx).2
      obtain ⟨bX, oX, rfl, hbX, hcX⟩ := HX.out.2.2.2 (List.ne_nil_of_length_pos (by omega))
      have hc := Keeps.cell1 (hcX q hqn) hK.out hbX (by simp)
      have hbyte := byte_eq (r := r) HX.out.2.2.1 hx (by omega)
      rw [show 4 * q + r = i by omega, ← HV.out] at hbyte
      rw [List.getElem?_eq_getElem hqn] at hx
      simp only [Option.some.injEq] at hx
      rw [hx] at hc
      obtain ⟨z, hz⟩ : ∃ z, z = x / 2 ^ (8 * r) % 256 := ⟨_, rfl⟩
      have hzl : z < 256 := by rw [hz]; exact Nat.mod_lt _ (by omega)
      have hzI : ((x : Int) / 2 ^ (8 * r)) % 256 = (z : Int) := by rw [hz]; simp
      rw [← hz] at hbyte
      have g1 : (i : Int) / 4 = (q : Int) := by omega
      have g2 : (i : Int) % 4 = (r : Int) := by omega
      have g3 : ((i : Int) / 4).toNat = q := by omega
      have hql : q < nx := by omega
      have hrl : r < 4 := by omega
      have HB := Lib.hid hbyte
      clear hq hr hx hz hbyte hcX hqn
      by_cases him : i < many
      · have i2 : (i : Int) < (many : Int) := by omega
        have i3 : (0 : Int) ≤ (many : Int) - 1 - (i : Int) := by omega
        have i4 : (many : Int) - 1 - (i : Int) < (many : Int) := by omega
        have i5 : ((many : Int) - 1 - (i : Int)).toNat = many - 1 - i := by omega
        obtain ⟨o, ho⟩ := some_get (L := O) (i := many - 1 - i) (by have := hOl.out; omega)
        have co := hO.out.cell ho
        have fo := hO.out.free (many - 1 - i)
        have hO2 := hO.out.set (many - 1 - i) z
        have hst := byte_step (O := O) (v := V) (T := i) (i := many - 1 - i) (z := z) hOl.out (by omega) (by rw [show many - 1 - i + 1 = many - i by omega]; exact hOv.out) HB.out.symm
        have HO2 := Lib.hid hO2; have HST := Lib.hid hst
        clear hO2 hst ho
        go_wp2_with fail
        go_roundg (4 * nx - (i + 1))
        case measure => omega
        case rel =>
          refine ⟨i + 1, O.set (many - 1 - i) z, rfl, by go_num, by omega, Lib.hid (by rw [List.length_set]; exact hOl.out), Lib.hid (hOt.out.set hzl _), HO2, Lib.hid ?_, Lib.hid ?_, Lib.hid (hK.out.setCell (fun h => absurd h (Nat.lt_irrefl _)) _)⟩
          · rw [show many - (i + 1) = many - 1 - i by omega]
            exact HST.out
          · rw [show many - (i + 1) = many - 1 - i by omega, List.take_set_of_le (Nat.le_refl _)]
            have h := congrArg (fun l => l.take (many - 1 - i)) hOz.out
            simp only [List.take_take, List.take_replicate] at h
            rw [show min (many - 1 - i) (many - i) = many - 1 - i by omega] at h
            exact h
      · have i2 : ¬ (i : Int) < (many : Int) := by omega
        have hz0 : z = 0 := by rw [← HB.out]; exact high_zero hv (by omega)
        subst hz0
        have hst : bval (O.drop (many - (i + 1))) = V % 256 ^ (i + 1) := by
          have h := hOv.out
          rw [show many - i = 0 by omega] at h
          have h1 : V < 256 ^ i := Nat.lt_of_lt_of_le hv (Nat.pow_le_pow_right (by omega) (by omega))
          have h2 : V < 256 ^ (i + 1) := Nat.lt_of_lt_of_le hv (Nat.pow_le_pow_right (by omega) (by omega))
          rw [show many - (i + 1) = 0 by omega, h, Nat.mod_eq_of_lt h1, Nat.mod_eq_of_lt h2]
        have HST := Lib.hid hst
        clear hst
        go_wp2_with fail
        go_roundg (4 * nx - (i + 1))
        case measure => omega
        case rel => exact ⟨i + 1, O, rfl, by go_num, by omega, hOl, hOt, hO, HST, Lib.hid (by rw [show many - (i + 1) = 0 by omega]; rfl), hK⟩
    · have i1 : ¬ (i : Int) < 4 * (nx : Int) := by omega
      have hi' : i = 4 * nx := by omega
      have hfin : Hid (bval O = V) := by
        have h := hOv.out
        have hV4 : V < 256 ^ i := by
          rw [HV.out, hi', Nat.pow_mul]
          have h1 := val32_lt HX.out.2.2.1
          rw [HX.out.1] at h1
          exact h1
        rw [Nat.mod_eq_of_lt hV4] at h
        refine Lib.hid ?_
        have h2 := List.take_append_drop (many - i) O
        rw [hOz.out] at h2
        rw [← h2, bval_append, bval_zeros, Nat.zero_mul, Nat.zero_add]
        exact h
      obtain ⟨s, hcv, hsb, hss⟩ := convert_bytes (hO.out.slB hOt.out hOl.out (Nat.le_refl _))
      have HSB := Lib.hid hsb
      clear hsb hi'
      go_wp2_with fail
      go_ret2
      exact ⟨⟨s, rfl, by rw [HSB.out]; exact hOl.out, by rw [HSB.out]; exact hfin.out⟩, hK.out⟩

end Go.Proofs.YtnfjmngchapdnaaGreatDoor
