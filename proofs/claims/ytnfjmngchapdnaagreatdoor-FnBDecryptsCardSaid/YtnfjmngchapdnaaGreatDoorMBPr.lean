import Derived.Test.YtnfjmngchapdnaaGreatDoorMLLess
import Derived.Test.YtnfjmngchapdnaaGreatDoorMKeyOf
import Derived.Test.YtnfjmngchapdnaaGreatDoorMNum
import Derived.Test.YtnfjmngchapdnaaGreatDoorMChkB
import Derived.Test.YtnfjmngchapdnaaGreatDoorMNat
import Derived.Test.YtnfjmngchapdnaaGreatDoorMPubOf
/- spec.BPrimed. -/
namespace Go.Proofs.YtnfjmngchapdnaaGreatDoor
open Go.RowKit

/-- One of the three primes. -/
def MP (x : Nat) : Prop := x = Mers 521 ∨ x = Mers 607 ∨ x = Mers 1279
theorem mers_eq (b : Nat) : Mers b = 2 ^ b - 1 := rfl
theorem MP.pr {x : Nat} (h : MP x) : Pr x := by
  rcases h with h | h | h
  · rw [h, mers_eq]; exact pr521
  · rw [h, mers_eq]; exact pr607
  · rw [h, mers_eq]; exact pr1279

set_option maxRecDepth 1000000 in
set_option maxHeartbeats 8000000 in
theorem known_any (a : Option Addr) (m c : Nat) (L : List Nat) (w : World) (hs : SlB w a m c L) (hm : m ≤ 240) :
    Calls Tryz.prog 27 #[.slice a m c] w fun e w' => Says e (MP (bval L)) ∧ Keeps [] w w' := by
  have hcv := convert_strB hs
  obtain ⟨V, hV⟩ : ∃ V, V = bval L := ⟨_, rfl⟩
  rw [← hV]
  have HV := Lib.hid hV; have HS := Lib.hid hs
  clear hV hs
  obtain ⟨M1, hM1⟩ : ∃ M, M = Mers 521 := ⟨_, rfl⟩
  obtain ⟨M2, hM2⟩ : ∃ M, M = Mers 607 := ⟨_, rfl⟩
  obtain ⟨M3, hM3⟩ : ∃ M, M = Mers 1279 := ⟨_, rfl⟩
  have HM1 := Lib.hid hM1; have HM2 := Lib.hid hM2; have HM3 := Lib.hid hM3
  clear hM1 hM2 hM3
  go_enter Tryz.func27, Tryz.ntmps27
  go_wp2_with fail
  clear hcv
  refine (num_of (w := w) (L := L) HS.out (by omega)).mono ?_
  rintro e w1 ⟨⟨ax, nx, cx, rfl, hx⟩, hk1⟩
  rw [← HV.out] at hx
  go_wp2_with fail
  refine (lMersenne_any 521 _ (by omega)).mono ?_
  rintro e w2 ⟨⟨ay, ny, cy, rfl, hy⟩, hk2⟩
  rw [← HM1.out] at hy
  have HX := Lib.hid (hx.kept hk2); have HY := Lib.hid hy; have HK := Lib.hid (hk1.trans1 hk2)
  clear hx hy hk1 hk2
  go_wp2_with fail
  by_cases h1 : V = M1
  · have H1 := Lib.hid h1
    refine (num_eq HX.out HY.out (by omega) (by omega) h1).mono ?_
    rintro e w3 ⟨rfl, hk3⟩
    have HK3 := Lib.hid (HK.out.trans1 hk3)
    clear hk3 h1
    go_wp2
    go_ret
    exact ⟨Says.yes (.inl (by rw [H1.out, HM1.out])), HK3.out⟩
  · have H1 := Lib.hid h1
    refine (num_neq HX.out HY.out (by omega) (by omega) h1).mono ?_
    rintro e w3 ⟨⟨o, rfl, ho⟩, hk3⟩
    replace HX := Lib.hid (HX.out.kept hk3); have HK3 := Lib.hid (HK.out.trans1 hk3)
    clear hk3 h1 HY HK
    go_wp2_with fail
    refine (lMersenne_any 607 _ (by omega)).mono ?_
    rintro e w4 ⟨⟨ay, ny, cy, rfl, hy⟩, hk2⟩
    rw [← HM2.out] at hy
    replace HX := Lib.hid (HX.out.kept hk2); have HY := Lib.hid hy; have HK := Lib.hid (HK3.out.trans1 hk2)
    clear hy hk2 HK3
    go_wp2_with fail
    by_cases h2 : V = M2
    · have H2 := Lib.hid h2
      refine (num_eq HX.out HY.out (by omega) (by omega) h2).mono ?_
      rintro e w5 ⟨rfl, hk3⟩
      have HK3 := Lib.hid (HK.out.trans1 hk3)
      clear hk3 h2
      go_wp2
      go_ret
      exact ⟨Says.yes (.inr (.inl (by rw [H2.out, HM2.out]))), HK3.out⟩
    · have H2 := Lib.hid h2
      refine (num_neq HX.out HY.out (by omega) (by omega) h2).mono ?_
      rintro e w5 ⟨⟨o2, rfl, ho2⟩, hk3⟩
      replace HX := Lib.hid (HX.out.kept hk3); have HK3 := Lib.hid (HK.out.trans1 hk3)
      clear hk3 h2 HY HK
      go_wp2_with fail
      refine (lMersenne_any 1279 _ (by omega)).mono ?_
      rintro e w6 ⟨⟨ay, ny, cy, rfl, hy⟩, hk2⟩
      rw [← HM3.out] at hy
      replace HX := Lib.hid (HX.out.kept hk2); have HY := Lib.hid hy; have HK := Lib.hid (HK3.out.trans1 hk2)
      clear hy hk2 HK3
      go_wp2_with fail
      by_cases h3 : V = M3
      · have H3 := Lib.hid h3
        refine (num_eq HX.out HY.out (by omega) (by omega) h3).mono ?_
        rintro e w7 ⟨rfl, hk3⟩
        have HK3 := Lib.hid (HK.out.trans1 hk3)
        clear hk3 h3
        go_wp2
        go_ret
        exact ⟨Says.yes (.inr (.inr (by rw [H3.out, HM3.out]))), HK3.out⟩
      · have H3 := Lib.hid h3
        refine (num_neq HX.out HY.out (by omega) (by omega) h3).mono ?_
        rintro e w7 ⟨⟨o3, rfl, ho3⟩, hk3⟩
        have HK3 := Lib.hid (HK.out.trans1 hk3)
        clear hk3 h3
        go_wp2
        go_ret
        exact ⟨Says.no (fun h => by
          rcases h with h | h | h
          · exact H1.out (by rw [h, HM1.out])
          · exact H2.out (by rw [h, HM2.out])
          · exact H3.out (by rw [h, HM3.out])), HK3.out⟩

set_option maxRecDepth 1000000 in
set_option maxHeartbeats 8000000 in
theorem bPrimed_any (k : KA) (w : World) (hk : k.is w) (ht : k.tidy) :
    Calls Tryz.prog 13 #[.agg #[.slice k.a1 k.m1 k.c1, .int .i64 k.E, .slice k.a2 k.m2 k.c2, .slice k.a3 k.m3 k.c3, .slice k.a4 k.m4 k.c4, .slice k.a5 k.m5 k.c5, .slice k.a6 k.m6 k.c6, .slice k.a7 k.m7 k.c7]] w fun e w' =>
      Says e (MP (bval k.L3) ∧ MP (bval k.L4)) ∧ Keeps [] w w' := by
  have hb0 := alloc_blk w (.cells #[.slice k.a1 k.m1 k.c1, .int .i64 k.E, .slice k.a2 k.m2 k.c2, .slice k.a3 k.m3 k.c3, .slice k.a4 k.m4 k.c4, .slice k.a5 k.m5 k.c5, .slice k.a6 k.m6 k.c6, .slice k.a7 k.m7 k.c7] 24)
  have hk0 : Keeps [] w (w.alloc (.cells #[.slice k.a1 k.m1 k.c1, .int .i64 k.E, .slice k.a2 k.m2 k.c2, .slice k.a3 k.m3 k.c3, .slice k.a4 k.m4 k.c4, .slice k.a5 k.m5 k.c5, .slice k.a6 k.m6 k.c6, .slice k.a7 k.m7 k.c7] 24)) := (Keeps.refl _ _).alloc _
  obtain ⟨wa, hwa⟩ : ∃ wa, wa = w.alloc (.cells #[.slice k.a1 k.m1 k.c1, .int .i64 k.E, .slice k.a2 k.m2 k.c2, .slice k.a3 k.m3 k.c3, .slice k.a4 k.m4 k.c4, .slice k.a5 k.m5 k.c5, .slice k.a6 k.m6 k.c6, .slice k.a7 k.m7 k.c7] 24) := ⟨_, rfl⟩
  rw [← hwa] at hb0 hk0
  have r3 : k.m3 ≤ 240 := by rw [← hk.s3.1]; exact ht.t3.1
  have r4 : k.m4 ≤ 240 := by rw [← hk.s4.1]; exact ht.t4.1
  have HKB := Lib.hid hb0; have HK := Lib.hid hk0; have HI := Lib.hid (hk.kept hk0)
  obtain ⟨k0, k1, k2, k3, k4, k5, k6, k7⟩ := key8 hb0
  clear hb0 hk0 hk ht
  go_enter Tryz.func13, Tryz.ntmps13
  go_wp2_with fail
  rw [← hwa]
  clear hwa
  refine (known_any k.a3 k.m3 k.c3 k.L3 _ HI.out.s3 r3).mono ?_
  rintro e wb ⟨⟨b1, rfl, h1⟩, hs⟩
  have hkb := blk_keeps HKB.out hs (by simp)
  clear k0 k1 k2 k3 k4 k5 k6 k7
  obtain ⟨k0, k1, k2, k3, k4, k5, k6, k7⟩ := key8 hkb
  have HK2 := Lib.hid (HK.out.trans1 hs); have HI2 := Lib.hid (HI.out.kept hs); have H1 := Lib.hid h1
  clear hs hkb h1
  cases b1
  · go_wp2
    go_ret
    exact ⟨Says.no (fun h => by have := H1.out.2 h.1; simp at this), HK2.out⟩
  · go_wp2_with fail
    refine (known_any k.a4 k.m4 k.c4 k.L4 _ HI2.out.s4 r4).mono ?_
    rintro e wc ⟨⟨b2, rfl, h2⟩, hs⟩
    have HK3 := Lib.hid (HK2.out.trans1 hs); have H2 := Lib.hid h2
    clear hs h2
    cases b2
    · go_wp2
      go_ret
      exact ⟨Says.no (fun h => by have := H2.out.2 h.2; simp at this), HK3.out⟩
    · go_wp2
      go_ret
      exact ⟨Says.yes ⟨H1.out.1 trivial, H2.out.1 trivial⟩, HK3.out⟩

end Go.Proofs.YtnfjmngchapdnaaGreatDoor

/- rsa: the public part of a private key; small choices. -/
namespace Go.Proofs.YtnfjmngchapdnaaGreatDoor
open Go.RowKit

set_option maxRecDepth 100000 in
set_option maxHeartbeats 1000000 in
theorem pub_Size_c (pp : Nat) (E : Int) (a : MA) (w : World) (hp : PubC w pp a.m E) (hm : a.is w) :
    Calls Tryz.prog 43 #[.pointer (some ⟨pp, 0, none⟩)] w fun e w' => e = .returned (.int .i64 (((blen a.v + 7) / 8 : Nat) : Int)) ∧ w = w' := by
  have c0 := hp.c0
  have hbl := blen_le_n hm.lt
  have hn31 := hm.n31
  go_enter Tryz.func43, Tryz.ntmps43
  go_wp2_with fail
  refine (ma_BitLen a _ hm).mono ?_
  rintro e w1 ⟨rfl, rfl⟩
  go_wp2
  go_ret
  refine ⟨?_, rfl⟩
  go_num

set_option maxRecDepth 100000 in
set_option maxHeartbeats 1000000 in
theorem checkPublicKeySize_c (pp : Nat) (E : Int) (a : MA) (w : World) (hp : PubC w pp a.m E) (hm : a.is w) :
    Calls Tryz.prog 40 #[.pointer (some ⟨pp, 0, none⟩)] w fun e w' =>
      (∃ v, e = .returned v ∧ ((1024 ≤ blen a.v ∧ v = .nilIface) ∨ (blen a.v < 1024 ∧ IsErr v))) ∧ Keeps [] w w' := by
  have c0 := hp.c0
  go_enter Tryz.func40, Tryz.ntmps40
  go_wp2_with fail
  refine (ma_BitLen a _ hm).mono ?_
  rintro e w1 ⟨rfl, rfl⟩
  by_cases hlt : blen a.v < 1024
  · have i1 : (blen a.v : Int) < 1024 := by omega
    go_wp2_with fail
    refine (errors_New _ _).mono ?_
    rintro e w3 ⟨⟨b, rfl, _, _⟩, hk⟩
    go_wp2
    go_ret
    exact ⟨⟨_, rfl, .inr ⟨hlt, _, _, rfl⟩⟩, hk⟩
  · have i1 : ¬ (blen a.v : Int) < 1024 := by omega
    go_wp2
    go_ret
    exact ⟨⟨_, rfl, .inl ⟨by omega, rfl⟩⟩, Keeps.refl _ _⟩

set_option maxRecDepth 100000 in
theorem priv_PublicKey (pk : Nat) (w : World) :
    Calls Tryz.prog 41 #[.pointer (some ⟨pk, 0, none⟩)] w fun e w' => e = .returned (.pointer (some ⟨pk, 0, none⟩)) ∧ w = w' := by
  go_enter Tryz.func41, Tryz.ntmps41
  go_wp2
  go_ret
  exact ⟨rfl, rfl⟩

set_option maxRecDepth 100000 in
theorem ct_ByteEq (x y : Nat) (w : World) :
    Calls Tryz.prog 58 #[.int .u8 (x : Int), .int .u8 (y : Int)] w fun e w' => e = .returned (.int .i64 (if x = y then 1 else 0)) ∧ w = w' := by
  go_enter Tryz.func58, Tryz.ntmps58
  by_cases h : x = y
  · have h' : (x : Int) = (y : Int) := by omega
    go_wp2
    go_ret
    simp [h]
  · have h' : ¬ (x : Int) = (y : Int) := by omega
    go_wp2
    go_ret
    simp [h]

set_option maxRecDepth 100000 in
theorem ct_Select (v x y : Int) (w : World) :
    Calls Tryz.prog 59 #[.int .i64 v, .int .i64 x, .int .i64 y] w fun e w' => e = .returned (.int .i64 (if v = 0 then y else x)) ∧ w = w' := by
  go_enter Tryz.func59, Tryz.ntmps59
  by_cases h : v = 0
  · go_wp2
    go_ret
    simp [h]
  · go_wp2
    go_ret
    simp [h]

set_option maxRecDepth 100000 in
theorem ct_LessOrEq (x y : Int) (w : World) :
    Calls Tryz.prog 60 #[.int .i64 x, .int .i64 y] w fun e w' => e = .returned (.int .i64 (if x ≤ y then 1 else 0)) ∧ w = w' := by
  go_enter Tryz.func60, Tryz.ntmps60
  by_cases h : x ≤ y
  · go_wp2
    go_ret
    simp [h]
  · have h' : decide (x ≤ y) = false := by simp [h]
    rw [if_neg h]
    clear h
    go_wp2
    go_ret
    exact ⟨rfl, rfl⟩

set_option maxRecDepth 100000 in
theorem ct_Eq (x y : Int) (w : World) :
    Calls Tryz.prog 44 #[.int .i32 x, .int .i32 y] w fun e w' => e = .returned (.int .i64 (if x = y then 1 else 0)) ∧ w = w' := by
  go_enter Tryz.func44, Tryz.ntmps44
  by_cases h : x = y
  · subst h
    go_wp2
    go_ret
    exact ⟨by simp, rfl⟩
  · rw [if_neg h]
    go_wp2
    go_ret
    exact ⟨rfl, rfl⟩

end Go.Proofs.YtnfjmngchapdnaaGreatDoor

/- What a block opens to (PKCS #1 v1.5), in plain lists. -/
namespace Go.Proofs.YtnfjmngchapdnaaGreatDoor

theorem bval_cons2 (x : Nat) (L : List Nat) : bval (x :: L) = x * 256 ^ L.length + bval L := by
  show List.foldl _ _ _ = _
  rw [List.foldl_cons, foldl_bval]; simp
theorem bval_inj : ∀ {L M : List Nat}, LtB L → LtB M → L.length = M.length → bval L = bval M → L = M
  | [], [], _, _, _, _ => rfl
  | [], _ :: _, _, _, h, _ => by simp at h
  | _ :: _, [], _, _, h, _ => by simp at h
  | x :: L, y :: M, hL, hM, hl, h => by
    have hl' : L.length = M.length := by simpa using hl
    rw [bval_cons2, bval_cons2, hl'] at h
    have h1 := bval_lt (L := L) fun z hz => hL z (by simp [hz])
    have h2 := bval_lt (L := M) fun z hz => hM z (by simp [hz])
    rw [hl'] at h1
    have hp : 0 < 256 ^ M.length := Nat.pow_pos (by omega)
    have e1 : x = y := by
      have h3 := congrArg (fun t => t / 256 ^ M.length) h
      rw [Nat.mul_comm x, Nat.mul_comm y, Nat.mul_add_div hp, Nat.mul_add_div hp, Nat.div_eq_of_lt h1, Nat.div_eq_of_lt h2] at h3
      omega
    subst e1
    rw [bval_inj (fun z hz => hL z (by simp [hz])) (fun z hz => hM z (by simp [hz])) hl' (by omega)]

/-- z is the place of the first nought behind the second byte. -/
def IsZ (M : List Nat) (z : Nat) : Prop := 2 ≤ z ∧ M[z]? = some 0 ∧ ∀ j, 2 ≤ j → j < z → M[j]? ≠ some 0
theorem IsZ.uniq {M : List Nat} {z z' : Nat} (h : IsZ M z) (h' : IsZ M z') : z = z' := by
  rcases Nat.lt_trichotomy z z' with hl | rfl | hl
  · exact absurd h.2.1 (h'.2.2 z h.1 hl)
  · rfl
  · exact absurd h'.2.1 (h.2.2 z' h'.1 hl)
theorem IsZ.lt {M : List Nat} {z : Nat} (h : IsZ M z) : z < M.length := by
  rcases Nat.lt_or_ge z M.length with h1 | h1
  · exact h1
  · have := h.2.1
    rw [List.getElem?_eq_none h1] at this
    simp at this
/-- There is none ahead of i. -/
def NoZ (M : List Nat) (i : Nat) : Prop := ∀ j, 2 ≤ j → j < i → M[j]? ≠ some 0
theorem NoZ.two (M : List Nat) : NoZ M 2 := fun j h1 h2 => by omega
theorem NoZ.next {M : List Nat} {i x : Nat} (h : NoZ M i) (hx : M[i]? = some x) (h0 : x ≠ 0) : NoZ M (i + 1) := fun j h1 h2 => by
  rcases Nat.lt_or_ge j i with h3 | h3
  · exact h j h1 h3
  · have : j = i := by omega
    subst this
    rw [hx]; simp [h0]
theorem NoZ.found {M : List Nat} {i : Nat} (h : NoZ M i) (hi : 2 ≤ i) (hx : M[i]? = some 0) : IsZ M i := ⟨hi, hx, h⟩
theorem NoZ.none {M : List Nat} {i : Nat} (h : NoZ M i) (hi : M.length ≤ i) (z : Nat) : ¬ IsZ M z := fun hz => h z hz.1 (by have := hz.lt; omega) hz.2.1

/-- The block M opens to the text T. -/
def OpensTo (M T : List Nat) : Prop := M[0]? = some 0 ∧ M[1]? = some 2 ∧ ∃ z, IsZ M z ∧ 10 ≤ z ∧ T = M.drop (z + 1)
def Shut (M : List Nat) : Prop := ∀ T, ¬ OpensTo M T
theorem OpensTo.uniq {M T T' : List Nat} (h : OpensTo M T) (h' : OpensTo M T') : T = T' := by
  obtain ⟨_, _, z, hz, _, rfl⟩ := h
  obtain ⟨_, _, z', hz', _, rfl⟩ := h'
  rw [hz.uniq hz']
theorem OpensTo.lt {M T : List Nat} (h : OpensTo M T) (hM : LtB M) : LtB T := by
  obtain ⟨_, _, z, _, _, rfl⟩ := h
  exact fun x hx => hM x (List.mem_of_mem_drop hx)
theorem OpensTo.len {M T : List Nat} (h : OpensTo M T) : T.length + 11 ≤ M.length := by
  obtain ⟨_, _, z, hz, h10, rfl⟩ := h
  have := hz.lt
  simp
  omega
theorem shut_0 {M : List Nat} {x : Nat} (h : M[0]? = some x) (hx : x ≠ 0) : Shut M := fun T hT => by
  have := hT.1; rw [h] at this; simp at this; exact hx this
theorem shut_1 {M : List Nat} {x : Nat} (h : M[1]? = some x) (hx : x ≠ 2) : Shut M := fun T hT => by
  have := hT.2.1; rw [h] at this; simp at this; exact hx this
theorem shut_n {M : List Nat} (h : NoZ M M.length) : Shut M := fun T hT => by
  obtain ⟨_, _, z, hz, _, _⟩ := hT
  exact h.none (Nat.le_refl _) z hz
theorem shut_z {M : List Nat} {z : Nat} (h : IsZ M z) (h10 : z < 10) : Shut M := fun T hT => by
  obtain ⟨_, _, z', hz, h1, _⟩ := hT
  have := h.uniq hz
  omega
/-- What becomes of a session key that is opened over. -/
def SesTo (M A R : List Nat) : Prop := (∃ T, OpensTo M T ∧ T.length = A.length ∧ R = T) ∨ ((∀ T, OpensTo M T → T.length ≠ A.length) ∧ R = A)
theorem SesTo.uniq {M A R R' : List Nat} (h : SesTo M A R) (h' : SesTo M A R') : R = R' := by
  rcases h with ⟨T, h1, h2, rfl⟩ | ⟨h1, rfl⟩ <;> rcases h' with ⟨T', h3, h4, rfl⟩ | ⟨h3, rfl⟩
  · exact h1.uniq h3
  · exact absurd h2 (h3 _ h1)
  · exact absurd h4 (h1 _ h3)
  · rfl

/-- The block that decryption gives: so many bytes, of that value. -/
def Blk (S v : Nat) (O : List Nat) : Prop := O.length = S ∧ LtB O ∧ bval O = v
theorem Blk.uniq {S v : Nat} {O O' : List Nat} (h : Blk S v O) (h' : Blk S v O') : O = O' := bval_inj h.2.1 h'.2.1 (h.1.trans h'.1.symm) (h.2.2.trans h'.2.2.symm)

end Go.Proofs.YtnfjmngchapdnaaGreatDoor

/- rsa: decryption: what it leaves; a key that decrypts. -/
namespace Go.Proofs.YtnfjmngchapdnaaGreatDoor
open Go.RowKit

/-- The error of decryption, as it is laid. -/
def Gd (w : World) (a0 : Addr) : Prop := w.cell? ⟨0, 0, none⟩ = some (.iface 124 (.pointer (some a0)))
theorem Gd.size {w : World} {a0 : Addr} (h : Gd w a0) : 0 < w.heap.size := World.block_lt_of_cell? w _ h
theorem Gd.kept {w w' : World} {a0 : Addr} (h : Gd w a0) (hk : Keeps [] w w') : Gd w' a0 := Keeps.cell h hk h.size (by simp)
/-- What decryption leaves. -/
def DecR (e : Ending) (w' : World) (a : MA) (mb : Nat) (a0 : Addr) (B v r : Nat) : Prop :=
  (mb ≤ 8 * a.n ∧ v < a.v ∧ ∃ (b : Nat) (O : List Nat), e = .returned (.tuple #[.slice (some ⟨b, 0, none⟩) ((blen a.v + 7) / 8) ((blen a.v + 7) / 8), .nilIface]) ∧ B ≤ b ∧ SlB w' (some ⟨b, 0, none⟩) ((blen a.v + 7) / 8) ((blen a.v + 7) / 8) O ∧ bval O = r) ∨
  (¬ (mb ≤ 8 * a.n ∧ v < a.v) ∧ e = .returned (.tuple #[.slice none 0 0, .iface 124 (.pointer (some a0))]))
/-- What is asked of a private key here: that decryption by it is the power by D. -/
def Decs (pk : Nat) (a : MA) (D : Nat) (a0 : Addr) (w : World) : Prop :=
  ∀ (w' : World) (s : Option Addr) (mb cb : Nat) (L : List Nat), Keeps [] w w' → SlB w' s mb cb L → mb ≤ 8000 →
    Calls Tryz.prog 82 #[.pointer (some ⟨pk, 0, none⟩), .slice s mb cb, .bool false] w' fun e w'' => DecR e w'' a mb a0 w'.heap.size (bval L) (bval L ^ D % a.v) ∧ Keeps [] w' w''
structure KD where
  (pk : Nat) (N : MA) (E : Int) (D : Nat) (a0 : Addr)
structure KD.is (K : KD) (w : World) : Prop where
  pub : PubC w K.pk K.N.m K.E
  N : K.N.is w
  g : Gd w K.a0
  dec : Decs K.pk K.N K.D K.a0 w
theorem PubC.kept' {w w' : World} {pp pm : Nat} {E : Int} (h : PubC w pp pm E) (hk : Keeps [] w w') : PubC w' pp pm E :=
  ⟨Keeps.cell h.c0 hk h.lt (by simp), Keeps.cell h.c1 hk h.lt (by simp)⟩
theorem KD.is.kept {K : KD} {w w' : World} (h : K.is w) (hk : Keeps [] w w') : K.is w' :=
  ⟨h.pub.kept' hk, h.N.kept hk, h.g.kept hk, fun w2 s mb cb L hk2 hs hm => h.dec w2 s mb cb L (hk.trans1 hk2) hs hm⟩
/-- So many bytes as the modulus has always fit. -/
theorem MA.is.fits {a : MA} {w : World} (h : a.is w) : (blen a.v + 7) / 8 ≤ 8 * a.n := by
  have h1 := blen_le_n h.lt
  omega

set_option maxRecDepth 100000 in
set_option maxHeartbeats 1000000 in
theorem decW_any (K : KD) (s : Option Addr) (mb cb : Nat) (L : List Nat) (w : World) (h : K.is w) (hs : SlB w s mb cb L) (hmb : mb ≤ 8000) :
    Calls Tryz.prog 57 #[.pointer (some ⟨K.pk, 0, none⟩), .slice s mb cb] w fun e w' => DecR e w' K.N mb K.a0 w.heap.size (bval L) (bval L ^ K.D % K.N.v) ∧ Keeps [] w w' := by
  have hd := h.dec w s mb cb L (Keeps.refl _ _) hs hmb
  have HD := Lib.hid hd
  clear hd h
  obtain ⟨r, hr⟩ : ∃ r, r = bval L ^ K.D % K.N.v := ⟨_, rfl⟩
  rw [← hr] at HD ⊢
  clear hr
  go_enter Tryz.func57, Tryz.ntmps57
  go_wp2_with fail
  refine HD.out.mono ?_
  rintro e w1 ⟨⟨h1, h2, b, O, rfl, hb, hO, hOv⟩ | ⟨hno, rfl⟩, hk⟩
  · have HO := Lib.hid hO; have HK := Lib.hid hk; have HV := Lib.hid hOv
    clear hO hk hOv
    go_wp2
    go_ret2
    exact ⟨.inl ⟨h1, h2, b, O, rfl, hb, HO.out, HV.out⟩, HK.out⟩
  · have HK := Lib.hid hk
    clear hk
    go_wp2
    go_ret2
    exact ⟨.inr ⟨hno, rfl⟩, HK.out⟩

end Go.Proofs.YtnfjmngchapdnaaGreatDoor

/- rsa: decryptPKCS1v15. -/
namespace Go.Proofs.YtnfjmngchapdnaaGreatDoor
open Go.RowKit

/-- What it leaves of so many bytes as the modulus has. -/
def PadR (e : Ending) (w' : World) (K : KD) (S v r : Nat) : Prop :=
  (v < K.N.v ∧ ∃ (b : Nat) (O : List Nat), Blk S r O ∧ SlB w' (some ⟨b, 0, none⟩) S S O ∧
    ((∃ z, O[0]? = some 0 ∧ O[1]? = some 2 ∧ IsZ O z ∧ 10 ≤ z ∧ e = .returned (.tuple #[.int .i64 1, .slice (some ⟨b, 0, none⟩) S S, .int .i64 ((z : Int) + 1), .nilIface])) ∨
      (Shut O ∧ e = .returned (.tuple #[.int .i64 0, .slice (some ⟨b, 0, none⟩) S S, .int .i64 0, .nilIface])))) ∨
  (¬ v < K.N.v ∧ e = .returned (.tuple #[.int .i64 0, .slice none 0 0, .int .i64 0, .iface 124 (.pointer (some K.a0))]))

theorem b64_11 : Go.bits .and .i64 1 1 = 1 := by decide
theorem b64_10 : Go.bits .and .i64 1 0 = 0 := by decide
theorem b64_01 : Go.bits .and .i64 0 1 = 0 := by decide
theorem b64_00 : Go.bits .and .i64 0 0 = 0 := by decide

set_option maxRecDepth 100000 in
set_option maxHeartbeats 4000000 in
theorem decPkcs_any (K : KD) (s : Option Addr) (mb cb : Nat) (L : List Nat) (w : World) (h : K.is w) (hs : SlB w s mb cb L) (hmb : mb = (blen K.N.v + 7) / 8) (hS : 11 ≤ mb) (hmb2 : mb ≤ 1000) :
    Calls Tryz.prog 42 #[.pointer (some ⟨K.pk, 0, none⟩), .slice s mb cb] w fun e w' => PadR e w' K mb (bval L) (bval L ^ K.D % K.N.v) ∧ Keeps [] w w' := by
  have hd := decW_any K s mb cb L w h hs (by omega)
  have HD := Lib.hid hd
  have HI := Lib.hid h
  have HFIT : Hid (mb ≤ 8 * K.N.n) := Lib.hid (by rw [hmb]; exact h.N.fits)
  have HMB := Lib.hid hmb
  obtain ⟨r, hr⟩ : ∃ r, r = bval L ^ K.D % K.N.v := ⟨_, rfl⟩
  rw [← hr] at HD ⊢
  clear hd h hr hmb hs
  have b1 := b64_11; have b2 := b64_10; have b3 := b64_01; have b4 := b64_00
  go_enter Tryz.func42, Tryz.ntmps42
  go_wp2_with fail
  refine (priv_PublicKey K.pk _).mono ?_
  rintro e w1 ⟨rfl, rfl⟩
  go_wp2_with fail
  refine (pub_Size_c K.pk K.E K.N _ HI.out.pub HI.out.N).mono ?_
  rintro e w1 ⟨rfl, rfl⟩
  rw [← HMB.out]
  have i1 : ¬ (mb : Int) < 11 := by omega
  go_wp2_with fail
  refine HD.out.mono ?_
  rintro e w1 ⟨⟨_, h2, b, O, rfl, hb, hO, hOv⟩ | ⟨hno, rfl⟩, hk⟩
  rotate_left
  · have HG := Lib.hid (HI.out.g.kept hk)
    have g0 : w1.cell? ⟨0, 0, none⟩ = some (.iface 124 (.pointer (some K.a0))) := HG.out
    have HK := Lib.hid hk
    have HNO : Hid (¬ bval L < K.N.v) := Lib.hid fun h => hno ⟨HFIT.out, h⟩
    clear hk hno
    go_wp2_with fail
    refine wp_region_txt [1,0,0,0,0] (fun _ => True) (by kernel_rfl) (by kernel_rfl) trivial ?_
    simp only [withMarks]
    repeat (first
      | ((with_reducible refine txt_v (v := ?_) ?_ ?_); (any_goals ((with_reducible refine Yl.mk ?_ ?_); rfl; intro w hSw; (go_simp <;> (try go_bits) <;> (repeat (first | rw [if_pos (by omega)] | rw [if_neg (by omega)])) <;> with_reducible rfl))); try simp only [Act.put, List.setIfInBounds_toArray, List.set_cons_zero, List.set_cons_succ])
      | ((with_reducible refine txt_u ?_ ?_); rfl; try simp only [Act.put, List.setIfInBounds_toArray, List.set_cons_zero, List.set_cons_succ])
      | ((with_reducible refine txt_l (v := ?_) ?_ ?_); (any_goals ((with_reducible refine Reads.mk ?_ ?_); rfl; (go_simp <;> (try go_bits) <;> (repeat (first | rw [if_pos (by omega)] | rw [if_neg (by omega)])) <;> with_reducible rfl))); try simp only [Act.put, List.setIfInBounds_toArray, List.set_cons_zero, List.set_cons_succ])
      | ((with_reducible refine txt_e ?_ ?_); rfl; intro K hK; go_simp; (first | (refine hK _ _ trivial ?_) | ((first | fail); dsimp only; refine hK _ _ trivial ?_)); clear hK K; try simp only [Act.put, List.setIfInBounds_toArray, List.set_cons_zero, List.set_cons_succ]))
    refine txt_nil ?_
    go_wp2
    refine bodyPost_ret (v := .tuple #[.int .i64 0, .slice none 0 0, .int .i64 0, .iface 124 (.pointer (some K.a0))]) (by simp [results, Tryz.results42, go_sem]) rfl ⟨.inr ⟨HNO.out, rfl⟩, HK.out.drew⟩
  rw [← HMB.out] at hO ⊢
  have HO := Lib.hid hO; have HK := Lib.hid hk
  have HBL : Hid (Blk mb r O) := Lib.hid ⟨hO.1, hO.2.2.1, hOv⟩
  have HC : Hid (∀ (i x : Nat), O[i]? = some x → w1.cell? ⟨b, i, none⟩ = some (.int .u8 (x : Int)) ∧ x < 256) := Lib.hid fun i x hx => by
    have hi := (List.getElem?_eq_some_iff.1 hx).1
    obtain ⟨b', o, e, _, hB⟩ := hO.2.2.2 (List.ne_nil_of_length_pos (by omega))
    simp only [Option.some.injEq, Addr.mk.injEq, and_true] at e
    obtain ⟨rfl, rfl⟩ := e
    have h1 := hB i hi
    rw [List.getElem?_eq_getElem hi] at hx
    simp only [Option.some.injEq] at hx
    rw [Nat.zero_add, hx] at h1
    exact ⟨h1, hO.2.2.1 x (by rw [← hx]; exact List.getElem_mem hi)⟩
  have HL : Hid (O.length = mb) := Lib.hid hO.1
  obtain ⟨x0, hx0⟩ : ∃ x, O[0]? = some x := ⟨_, List.getElem?_eq_getElem (by have := HL.out; omega)⟩
  obtain ⟨x1, hx1⟩ : ∃ x, O[1]? = some x := ⟨_, List.getElem?_eq_getElem (by have := HL.out; omega)⟩
  obtain ⟨c0, l0⟩ := HC.out 0 x0 hx0
  obtain ⟨c1, l1⟩ := HC.out 1 x1 hx1
  have HX0 := Lib.hid hx0; have HX1 := Lib.hid hx1; have H2 := Lib.hid h2
  clear hO hk hOv hx0 hx1 h2
  have j0 : (0 : Int) < (mb : Int) := by omega
  have j1 : (1 : Int) < (mb : Int) := by omega
  obtain ⟨p0, hp0⟩ : ∃ p0 : Int, p0 = (if x0 = 0 then 1 else 0) := ⟨_, rfl⟩
  obtain ⟨p1, hp1⟩ : ∃ p1 : Int, p1 = (if x1 = 2 then 1 else 0) := ⟨_, rfl⟩
  have HP0 := Lib.hid hp0; have HP1 := Lib.hid hp1
  clear hp0 hp1
  go_wp2_with fail
  refine (ct_ByteEq x0 0 _).mono ?_
  rintro e w2 ⟨rfl, rfl⟩
  rw [← HP0.out]
  go_wp2_with fail
  refine (ct_ByteEq x1 2 _).mono ?_
  rintro e w2 ⟨rfl, rfl⟩
  rw [← HP1.out]
  clear c0 c1 j0 j1
  go_wp2_with fail
  go_loopw [6, 11, 12] (fun ix lk iv wr => ∃ (i z : Nat) (k : Int), ix = .int .i64 (z : Int) ∧ lk = .int .i64 k ∧ iv = .int .i64 (i : Int) ∧ 2 ≤ i ∧ i ≤ mb ∧ Hid ((k = 1 ∧ z = 0 ∧ NoZ O i) ∨ (k = 0 ∧ IsZ O z)) ∧ Hid (wr = w1)) (fun _ _ iv _ => mb - (intOf iv).toNat)
  case atStart => exact ⟨2, 0, 1, by go_num, by go_num, by go_num, by omega, by omega, Lib.hid (.inl ⟨rfl, rfl, NoZ.two O⟩), Lib.hid rfl⟩
  case round =>
    obtain ⟨i, z, k, rfl, rfl, rfl, h2i, him, HR, HW⟩ := hrel
    have hw := HW.out
    subst hw
    by_cases hlt : i < mb
    · have i2 : (i : Int) < (mb : Int) := by omega
      obtain ⟨x, hx⟩ : ∃ x, O[i]? = some x := ⟨_, List.getElem?_eq_getElem (by have := HL.out; omega)⟩
      obtain ⟨cx, lx⟩ := HC.out i x hx
      have HX := Lib.hid hx
      have i3 : (0 : Int) ≤ (i : Int) := by omega
      clear hx
      by_cases hx0 : x = 0
      · subst hx0
        rcases HR.out with ⟨rfl, hz, hno⟩ | ⟨rfl, hz⟩
        · have HZ := Lib.hid (hno.found h2i HX.out)
          clear hz hno HR
          go_wp2_with fail
          refine (ct_ByteEq 0 0 _).mono ?_
          rintro e w2 ⟨rfl, rfl⟩
          rw [if_pos rfl]
          go_wp2_with fail
          refine (ct_Select 1 (i : Int) (z : Int) _).mono ?_
          rintro e w2 ⟨rfl, rfl⟩
          rw [if_neg (by decide)]
          go_wp2_with fail
          refine (ct_Select 1 0 1 _).mono ?_
          rintro e w2 ⟨rfl, rfl⟩
          rw [if_neg (by decide)]
          go_wp2_with fail
          exact ⟨⟨i + 1, i, 0, rfl, rfl, by go_num, by omega, by omega, Lib.hid (.inr ⟨rfl, HZ.out⟩), Lib.hid trivial⟩, by simp [intOf]; omega⟩
        · have HZ := Lib.hid hz
          clear hz HR
          go_wp2_with fail
          refine (ct_ByteEq 0 0 _).mono ?_
          rintro e w2 ⟨rfl, rfl⟩
          rw [if_pos rfl]
          go_wp2_with fail
          refine (ct_Select 0 (i : Int) (z : Int) _).mono ?_
          rintro e w2 ⟨rfl, rfl⟩
          rw [if_pos rfl]
          go_wp2_with fail
          refine (ct_Select 1 0 0 _).mono ?_
          rintro e w2 ⟨rfl, rfl⟩
          rw [if_neg (by decide)]
          go_wp2_with fail
          exact ⟨⟨i + 1, z, 0, rfl, rfl, by go_num, by omega, by omega, Lib.hid (.inr ⟨rfl, HZ.out⟩), Lib.hid trivial⟩, by simp [intOf]; omega⟩
      · have HXN := Lib.hid hx0
        clear hx0
        rcases HR.out with ⟨rfl, hz, hno⟩ | ⟨rfl, hz⟩
        · have HZ := Lib.hid (show z = 0 ∧ NoZ O (i + 1) from ⟨hz, hno.next HX.out HXN.out⟩)
          clear hz hno HR
          go_wp2_with fail
          refine (ct_ByteEq x 0 _).mono ?_
          rintro e w2 ⟨rfl, rfl⟩
          rw [if_neg HXN.out]
          go_wp2_with fail
          refine (ct_Select 0 (i : Int) (z : Int) _).mono ?_
          rintro e w2 ⟨rfl, rfl⟩
          rw [if_pos rfl]
          go_wp2_with fail
          refine (ct_Select 0 0 1 _).mono ?_
          rintro e w2 ⟨rfl, rfl⟩
          rw [if_pos rfl]
          go_wp2_with fail
          exact ⟨⟨i + 1, z, 1, rfl, rfl, by go_num, by omega, by omega, Lib.hid (.inl ⟨rfl, HZ.out.1, HZ.out.2⟩), Lib.hid trivial⟩, by simp [intOf]; omega⟩
        · have HZ := Lib.hid hz
          clear hz HR
          go_wp2_with fail
          refine (ct_ByteEq x 0 _).mono ?_
          rintro e w2 ⟨rfl, rfl⟩
          rw [if_neg HXN.out]
          go_wp2_with fail
          refine (ct_Select 0 (i : Int) (z : Int) _).mono ?_
          rintro e w2 ⟨rfl, rfl⟩
          rw [if_pos rfl]
          go_wp2_with fail
          refine (ct_Select 0 0 0 _).mono ?_
          rintro e w2 ⟨rfl, rfl⟩
          rw [if_pos rfl]
          go_wp2_with fail
          exact ⟨⟨i + 1, z, 0, rfl, rfl, by go_num, by omega, by omega, Lib.hid (.inr ⟨rfl, HZ.out⟩), Lib.hid trivial⟩, by simp [intOf]; omega⟩
    · have i2 : ¬ (i : Int) < (mb : Int) := by omega
      have HEND : Hid (i = O.length) := Lib.hid (by have := HL.out; omega)
      -- what is returned, by a value of 'valid'
      have fin : ∀ (val : Int), (val = 1 ∧ OpensTo O (O.drop (z + 1)) ∧ IsZ O z) ∨ (val = 0 ∧ Shut O) →
          PadR (.returned (.tuple #[.int .i64 val, .slice (some ⟨b, 0, none⟩) mb mb, .int .i64 (if val = 0 then 0 else (z : Int) + 1), .nilIface])) wr K mb (bval L) r ∧ Keeps [] w wr := fun val hv => by
        refine ⟨.inl ⟨H2.out, b, O, HBL.out, HO.out, ?_⟩, HK.out⟩
        rcases hv with ⟨rfl, ⟨o1, o2, z', o3, o4, o5⟩, hz⟩ | ⟨rfl, hs⟩
        · have : z' = z := o3.uniq hz
          subst this
          exact .inl ⟨z', o1, o2, o3, o4, rfl⟩
        · exact .inr ⟨hs, rfl⟩
      have FIN := Lib.hid fin
      clear fin
      obtain ⟨q, hq⟩ : ∃ q : Int, q = (if (10 : Int) ≤ (z : Int) then 1 else 0) := ⟨_, rfl⟩
      have HQ : Hid ((q = 1 ∧ 10 ≤ z) ∨ (q = 0 ∧ z < 10)) := Lib.hid (by
        rw [hq]
        by_cases h : (10 : Int) ≤ (z : Int)
        · rw [if_pos h]; exact .inl ⟨rfl, by omega⟩
        · rw [if_neg h]; exact .inr ⟨rfl, by omega⟩)
      have HQ0 := Lib.hid hq
      have HP0' : Hid ((p0 = 1 ∧ x0 = 0) ∨ (p0 = 0 ∧ x0 ≠ 0)) := Lib.hid (by
        rw [HP0.out]
        by_cases h : x0 = 0
        · rw [if_pos h]; exact .inl ⟨rfl, h⟩
        · rw [if_neg h]; exact .inr ⟨rfl, h⟩)
      have HP1' : Hid ((p1 = 1 ∧ x1 = 2) ∨ (p1 = 0 ∧ x1 ≠ 2)) := Lib.hid (by
        rw [HP1.out]
        by_cases h : x1 = 2
        · rw [if_pos h]; exact .inl ⟨rfl, h⟩
        · rw [if_neg h]; exact .inr ⟨rfl, h⟩)
      clear hq
      go_wp2_with fail
      refine (ct_LessOrEq 10 (z : Int) _).mono ?_
      rintro e w2 ⟨rfl, rfl⟩
      rw [← HQ0.out]
      clear HQ0 HP0 HP1
      -- the value of 'valid', by each of its four parts
      have val : ∃ v : Int, Go.bits .and .i64 (Go.bits .and .i64 (Go.bits .and .i64 p0 p1) (Go.bits .and .i64 (Go.bits .xor .i64 (-1) k) 1)) q = v ∧ ((v = 1 ∧ OpensTo O (O.drop (z + 1)) ∧ IsZ O z) ∨ (v = 0 ∧ Shut O)) := by
        rcases HR.out with ⟨rfl, _, hno⟩ | ⟨rfl, hz⟩
        · refine ⟨0, ?_, .inr ⟨rfl, shut_n (by rw [HEND.out] at hno; exact hno)⟩⟩
          rcases HP0'.out with ⟨rfl, _⟩ | ⟨rfl, _⟩ <;> rcases HP1'.out with ⟨rfl, _⟩ | ⟨rfl, _⟩ <;> rcases HQ.out with ⟨rfl, _⟩ | ⟨rfl, _⟩ <;> decide
        · rcases HP0'.out with ⟨rfl, h0⟩ | ⟨rfl, h0⟩
          · rcases HP1'.out with ⟨rfl, h1⟩ | ⟨rfl, h1⟩
            · rcases HQ.out with ⟨rfl, h2⟩ | ⟨rfl, h2⟩
              · exact ⟨1, by decide, .inl ⟨rfl, ⟨by rw [HX0.out, h0], by rw [HX1.out, h1], z, hz, h2, rfl⟩, hz⟩⟩
              · exact ⟨0, by decide, .inr ⟨rfl, shut_z hz h2⟩⟩
            · exact ⟨0, by rcases HQ.out with ⟨rfl, _⟩ | ⟨rfl, _⟩ <;> decide, .inr ⟨rfl, shut_1 HX1.out h1⟩⟩
          · exact ⟨0, by rcases HP1'.out with ⟨rfl, _⟩ | ⟨rfl, _⟩ <;> rcases HQ.out with ⟨rfl, _⟩ | ⟨rfl, _⟩ <;> decide, .inr ⟨rfl, shut_0 HX0.out h0⟩⟩
      obtain ⟨v, hv, hvv⟩ := val
      have HVV := Lib.hid hvv
      clear hvv
      have hzb : z ≤ 1000 := by
        rcases HR.out with ⟨_, h, _⟩ | ⟨_, h⟩
        · omega
        · have := h.lt; have := HL.out; omega
      clear b1 b2 b3 b4
      go_wp2_with fail
      refine (ct_Select v ((z : Int) + 1) 0 _).mono ?_
      rintro e w2 ⟨rfl, rfl⟩
      obtain ⟨y, hy⟩ : ∃ y : Int, y = (if v = 0 then 0 else (z : Int) + 1) := ⟨_, rfl⟩
      have HF := Lib.hid (FIN.out v HVV.out)
      rw [← hy] at HF ⊢
      clear hy hv
      go_wp2
      exact bodyPost_ret (v := .tuple #[.int .i64 v, .slice (some ⟨b, 0, none⟩) mb mb, .int .i64 y, .nilIface]) (by simp [results, Tryz.results42, go_sem]) rfl HF.out

end Go.Proofs.YtnfjmngchapdnaaGreatDoor
