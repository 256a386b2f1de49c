import Derived.Test.YtnfjmngchapdnaaGreatDoorMChkD
import Derived.Test.YtnfjmngchapdnaaGreatDoorMChk25
/- rsa: a private key without what is computed ahead; checkPrivateKey of it. -/
namespace Go.Proofs.YtnfjmngchapdnaaGreatDoor
open Go.RowKit

/-- A private key without primes. -/
structure PB where
  (pk : Nat) (N : MA) (E : Int) (d ld D : Nat)
def PB.cells (K : PB) (f : Bool) : Array Value := #[.pointer (some ⟨K.N.m, 0, none⟩), .int .i64 K.E, .pointer (some ⟨K.d, 0, none⟩), .pointer none, .pointer none, .slice none 0 0, .slice none 0 0, .pointer none, .bool f]
def PB.hdr (K : PB) (w : World) (f : Bool) : Prop := w.heap[K.pk]? = some (.cells (K.cells f) 99 (0, 0))
theorem PB.hdr.cell {K : PB} {w : World} {f : Bool} (h : K.hdr w f) (j : Nat) : w.cell? ⟨K.pk, j, none⟩ = (K.cells f)[j]? := by
  unfold PB.hdr at h; simp [World.cell?, h]
theorem PB.hdr.free {K : PB} {w : World} {f : Bool} (h : K.hdr w f) (j : Nat) : w.frozen? ⟨K.pk, j, none⟩ = false := by
  unfold PB.hdr at h; simp [World.frozen?, h]
theorem PB.hdr.set {K : PB} {w : World} {f : Bool} (h : K.hdr w f) (b : Bool) : K.hdr (w.setCell ⟨K.pk, 8, none⟩ (.bool b)) b := MHdr.modify h (by simp [PB.cells])
theorem PB.hdr.ne_hdr {K : PB} {w : World} {f : Bool} {p lb n c : Nat} (h : K.hdr w f) (hr : Hdr w p lb n c) : p ≠ K.pk := by
  rintro rfl
  unfold PB.hdr at h
  unfold Hdr at hr
  rw [h] at hr
  have := congrArg (fun x => match x with | some (Obj.cells _ t _) => t | _ => 0) hr
  simp at this
theorem PB.hdr.ne_row {K : PB} {w : World} {f : Bool} {b : Nat} {L : List Nat} (h : K.hdr w f) (hr : Row w b L) : b ≠ K.pk := by
  rintro rfl
  unfold PB.hdr at h
  unfold Row at hr
  rw [h] at hr
  have := congrArg (fun x => match x with | some (Obj.cells _ t _) => t | _ => 0) hr
  simp at this
theorem PB.hdr.ne_mhdr {K : PB} {w : World} {f : Bool} {pm pn m0 : Nat} {odd : Bool} {rv : Value} (h : K.hdr w f) (hr : MHdr w pm pn odd m0 rv) : pm ≠ K.pk := by
  rintro rfl
  unfold PB.hdr at h
  unfold MHdr at hr
  rw [h] at hr
  have := congrArg (fun x => match x with | some (Obj.cells _ t _) => t | _ => 0) hr
  simp at this
theorem PB.hdr.natv {K : PB} {w w' : World} {f : Bool} {p lb n c v : Nat} (h : K.hdr w f) (hx : NatV w p lb n c v) (hk : Keeps [K.pk] w w') : NatV w' p lb n c v := by
  obtain ⟨M, hM⟩ := hx.row'
  exact hx.keeps hk (by simp [h.ne_hdr hx.hdr]) (by simp [h.ne_row hM])
theorem PB.hdr.ma {K : PB} {w w' : World} {f : Bool} {a : MA} (h : K.hdr w f) (hx : a.is w) (hk : Keeps [K.pk] w w') : a.is w' := by
  obtain ⟨o, m0, rv, hb⟩ := ModX.modB hx
  obtain ⟨M, hM⟩ := hb.nat.row'
  have h1 := h.ne_mhdr hb.hdr
  have h2 := h.ne_hdr hb.nat.hdr
  have h3 := h.ne_row hM
  have h4 : a.r ≠ K.pk ∧ a.s ≠ K.pk := by
    rcases hx.bod with ⟨_, m0, _, _, hr⟩ | ⟨_, hr, hs, _⟩
    · obtain ⟨M, hM⟩ := hr.row'
      exact ⟨h.ne_hdr hr.hdr, h.ne_row hM⟩
    · rw [hr, hs]; exact ⟨h1, h1⟩
  exact ModX.keeps hx hk (by simp [h1]) (by simp [h2]) (by simp [h3]) (by simp [h4.1]) (by simp [h4.2])
/-- It stands in a world. -/
structure PB.is (K : PB) (w : World) : Prop where
  hdr : ∃ f, K.hdr w f
  N : K.N.is w
  d : NatV w K.d K.ld K.N.n 32 K.D
  E : -9223372036854775808 ≤ K.E ∧ K.E < 9223372036854775808
theorem PB.is.kept {K : PB} {w w' : World} (h : K.is w) (hk : Keeps [] w w') : K.is w' :=
  ⟨h.hdr.elim fun f hf => ⟨f, blk_keeps hf hk (by simp)⟩, h.N.kept hk, h.d.kept hk, h.E⟩
theorem PB.is.drew {K : PB} {w : World} (h : K.is w) : K.is w.drew := h.kept (Keeps.refl _ _).drew
theorem PB.is.store {K : PB} {w : World} (h : K.is w) (b : Bool) : K.is (w.setCell ⟨K.pk, 8, none⟩ (.bool b)) := by
  obtain ⟨f, hf⟩ := h.hdr
  have hk : Keeps [K.pk] w (w.setCell ⟨K.pk, 8, none⟩ (.bool b)) := (Keeps.refl _ _).setCell (by simp) _
  exact ⟨⟨b, hf.set b⟩, hf.ma h.N hk, hf.natv h.d hk, h.E⟩
theorem PB.is.c0 {K : PB} {w : World} (h : K.is w) : w.cell? ⟨K.pk, 0, none⟩ = some (.pointer (some ⟨K.N.m, 0, none⟩)) := by obtain ⟨f, hf⟩ := h.hdr; rw [hf.cell]; rfl
theorem PB.is.c1 {K : PB} {w : World} (h : K.is w) : w.cell? ⟨K.pk, 1, none⟩ = some (.int .i64 K.E) := by obtain ⟨f, hf⟩ := h.hdr; rw [hf.cell]; rfl
theorem PB.is.c2 {K : PB} {w : World} (h : K.is w) : w.cell? ⟨K.pk, 2, none⟩ = some (.pointer (some ⟨K.d, 0, none⟩)) := by obtain ⟨f, hf⟩ := h.hdr; rw [hf.cell]; rfl
theorem PB.is.c5 {K : PB} {w : World} (h : K.is w) : w.cell? ⟨K.pk, 5, none⟩ = some (.slice none 0 0) := by obtain ⟨f, hf⟩ := h.hdr; rw [hf.cell]; rfl
theorem PB.is.c8 {K : PB} {w : World} (h : K.is w) : ∃ f, w.cell? ⟨K.pk, 8, none⟩ = some (.bool f) ∧ w.frozen? ⟨K.pk, 8, none⟩ = false := by
  obtain ⟨f, hf⟩ := h.hdr
  exact ⟨f, by rw [hf.cell]; rfl, hf.free 8⟩
theorem PB.is.pub {K : PB} {w : World} (h : K.is w) : PubC w K.pk K.N.m K.E := ⟨h.c0, h.c1⟩
def ChkRB (e : Ending) (K : PB) : Prop := ∃ v, e = .returned v ∧ ((PubOk K.N.v K.E ∧ v = .nilIface) ∨ (¬ PubOk K.N.v K.E ∧ ∃ t x, v = .iface t x))

set_option maxRecDepth 1000000 in
set_option maxHeartbeats 4000000 in
theorem checkPriv_bare (Z : PB) (w : World) (h : Z.is w) :
    Calls Tryz.prog 54 #[.pointer (some ⟨Z.pk, 0, none⟩)] w fun e w' => ChkRB e Z ∧ Z.is w' ∧ Keeps [Z.pk] w w' := by
  obtain ⟨f, d8, f8⟩ := h.c8
  have hI1 := h.store true
  have hK1 : Keeps [Z.pk] w (w.setCell ⟨Z.pk, 8, none⟩ (.bool true)) := (Keeps.refl _ _).setCell (by simp) _
  obtain ⟨w1, hw1⟩ : ∃ w1, w1 = w.setCell ⟨Z.pk, 8, none⟩ (.bool true) := ⟨_, rfl⟩
  rw [← hw1] at hI1 hK1
  have HI := Lib.hid hI1; have HK := Lib.hid hK1
  clear hI1 hK1 h
  go_enter Tryz.func54, Tryz.ntmps54
  go_wp2_with fail
  rw [← hw1]
  clear hw1 d8 f8
  refine (checkPublicKey_c Z.pk Z.N.m Z.N.p Z.N.l Z.N.r Z.N.s Z.N.n Z.N.v Z.E _ HI.out.pub HI.out.N HI.out.E).mono ?_
  rintro e w2 ⟨⟨b, v, rfl, ⟨hok, rfl⟩ | ⟨hno, t, x, rfl⟩⟩, hk2⟩
  rotate_left
  · have HI2 := Lib.hid (HI.out.kept hk2); have HK2 := Lib.hid (HK.out.trans hk2 (by simp))
    clear hk2
    go_wp2
    go_ret
    exact ⟨⟨_, rfl, .inr ⟨hno, _, _, rfl⟩⟩, HI2.out, HK2.out⟩
  have HI2 := Lib.hid (HI.out.kept hk2); have HK2 := Lib.hid (HK.out.trans hk2 (by simp))
  clear hk2 HI HK
  go_upto_if 42 with fail
  go_cut [] (fun wx => Hid (Z.is wx) ∧ Hid (Keeps [Z.pk] w wx))
  case first =>
    rcases b with _ | _
    · obtain ⟨f, d8, f8⟩ := HI2.out.c8
      go_wp2_with fail
      go_meet
      case rel => exact ⟨Lib.hid (HI2.out.store false), Lib.hid (HK2.out.setCell (by simp) _)⟩
    · go_wp2_with fail
      go_meet
      case rel => exact ⟨HI2, HK2⟩
  case rest =>
    obtain ⟨HI, HK⟩ := hcut
    clear HI2 HK2
    have q22 : ∀ (w : World) (a : Option Addr) (n c n' c' : Nat), (binOp .eql 22 (.slice a n c) (.slice none n' c')).run Tryz.prog w = .ok (.bool a.isNone) w := fun w a n c n' c' => Lib.run_eql_slice_nil w _ _ a n c n' c' und_bytes
    have c5 := HI.out.c5
    obtain ⟨f, d8, f8⟩ := HI.out.c8
    have HI3 := Lib.hid (HI.out.store false); have HK3 : Hid (Keeps [Z.pk] w (wc.setCell ⟨Z.pk, 8, none⟩ (.bool false))) := Lib.hid (HK.out.setCell (by simp) _)
    clear HI HK
    go_wp2
    go_ret
    exact ⟨⟨_, rfl, .inl ⟨hok, rfl⟩⟩, HI3.out, HK3.out⟩

end Go.Proofs.YtnfjmngchapdnaaGreatDoor

/- rsa: NewPrivateKeyWithoutCRT. -/
namespace Go.Proofs.YtnfjmngchapdnaaGreatDoor
open Go.RowKit

/-- The slice of bytes fits a modulus if its number is below it. -/
def Fits (mb v m : Nat) : Prop := ∀ n, m < BB ^ n → v < m → mb ≤ 8 * n
def BareOk (N D : Nat) (E : Int) : Prop := 1 < N ∧ PubOk N E ∧ D < N
def BareR (e : Ending) (w' : World) (N D : Nat) (E : Int) : Prop :=
  (BareOk N D E ∧ ∃ Z : PB, e = .returned (.tuple #[.pointer (some ⟨Z.pk, 0, none⟩), .nilIface]) ∧ Z.is w' ∧ Z.N.v = N ∧ Z.E = E ∧ Z.D = D ∧ D < N) ∨ (¬ BareOk N D E ∧ ∃ t x, e = .returned (.tuple #[.pointer none, .iface t x]))
theorem alloc_blk (w : World) (o : Obj) : (w.alloc o).heap[w.heap.size]? = some o := by
  show (w.heap.push _)[w.heap.size]? = _
  rw [Array.getElem?_push, if_pos rfl]
theorem Keeps.newblk {w w1 w2 : World} {p : Nat} (h : Keeps [] w w1) (hp : w.heap.size ≤ p) (h2 : Keeps [p] w1 w2) : Keeps [] w w2 := h.one hp h2

set_option maxRecDepth 1000000 in
set_option maxHeartbeats 4000000 in
theorem newPrivBare (s1 s2 : Option Addr) (m1 c1 m2 c2 : Nat) (LN LD : List Nat) (E : Int) (w : World) (h1 : SlB w s1 m1 c1 LN) (h2 : SlB w s2 m2 c2 LD) (hm1 : m1 ≤ 240) (hm2 : m2 ≤ 240) (hf : Fits m2 (bval LD) (bval LN)) (hE : -9223372036854775808 ≤ E ∧ E < 9223372036854775808) :
    Calls Tryz.prog 39 #[.slice s1 m1 c1, .int .i64 E, .slice s2 m2 c2] w fun e w' => BareR e w' (bval LN) (bval LD) E ∧ Keeps [] w w' := by
  have HF := Lib.hid hf
  clear hf
  go_enter Tryz.func39, Tryz.ntmps39
  go_wp2_with fail
  refine (ma_NewMod s1 m1 c1 LN _ h1 hm1).mono ?_
  rintro e w1 ⟨⟨hgt, a, hav, hn30, hA, _, rfl⟩ | ⟨hle, t, x, rfl⟩, hk1⟩
  rotate_left
  · go_wp2
    go_ret2
    exact ⟨.inr ⟨fun h => by have := h.1; omega, _, _, rfl⟩, hk1⟩
  have HAV := Lib.hid hav
  clear hav
  go_wp2_with fail
  refine (newNat_any _).mono ?_
  rintro e w2 ⟨p, l, rfl, hx, hp, hl, hk2⟩
  have hA2 := hA.kept hk2
  go_wp2_with fail
  refine (ma_SetBytes p l 0 0 a _ _ _ LD _ hx hA2 ((h2.kept hk1).kept hk2) (hA.old hl).2.2.1 (by omega)).mono ?_
  rintro e w3 ⟨hR, hk3⟩
  have hs := hk2.two hp hl hk3
  have hk13 := hk1.trans1 hs
  have hA3 := hA.kept hs
  rcases hR with ⟨_, hlt, rfl, hx3⟩ | ⟨hno, t, x, rfl⟩
  rotate_left
  · have HNO : Hid (¬ bval LD < bval LN) := Lib.hid fun h => hno ⟨HF.out a.n (by rw [← HAV.out]; exact hA.lt) h, by rw [HAV.out]; exact h⟩
    clear hno
    go_wp2
    go_ret2
    exact ⟨.inr ⟨fun h => HNO.out h.2.2, _, _, rfl⟩, hk13⟩
  have HLT := Lib.hid hlt
  have HX3 := Lib.hid hx3; have HA3 := Lib.hid hA3; have HK := Lib.hid hk13
  clear hlt hx hk2 hk3 hk1 hA hA2 hA3 hx3 hk13 hs hp hl h1 h2
  go_wp2_with fail
  have hka : Keeps [] w3 (w3.alloc (.cells (PB.cells ⟨w3.heap.size, a, E, p, l, bval LD⟩ false) 99)) := (Keeps.refl _ _).alloc _
  have hI : PB.is ⟨w3.heap.size, a, E, p, l, bval LD⟩ (w3.alloc (.cells (PB.cells ⟨w3.heap.size, a, E, p, l, bval LD⟩ false) 99)) :=
    ⟨⟨false, alloc_blk _ _⟩, HA3.out.kept hka, HX3.out.kept hka, hE⟩
  have HKA := Lib.hid (HK.out.trans1 hka)
  refine (checkPriv_bare ⟨w3.heap.size, a, E, p, l, bval LD⟩ _ hI).mono ?_
  rintro e w4 ⟨⟨v, rfl, ⟨hok, rfl⟩ | ⟨hno, t, x, rfl⟩⟩, hI4, hk4⟩
  · have HI4 := Lib.hid hI4; have HK4 := Lib.hid (HKA.out.newblk HK.out.size hk4)
    have HOK : Hid (PubOk a.v E) := Lib.hid hok
    clear hI hI4 hka hk4 hok
    go_wp2
    go_ret2
    exact ⟨.inl ⟨⟨by have := HAV.out; omega, by rw [← HAV.out]; exact HOK.out, by rw [← HAV.out]; exact HLT.out⟩, _, rfl, HI4.out, HAV.out, rfl, rfl, by rw [← HAV.out]; exact HLT.out⟩, HK4.out⟩
  · have HK4 := Lib.hid (HKA.out.newblk HK.out.size hk4)
    have HOK : Hid (¬ PubOk a.v E) := Lib.hid hno
    clear hI hI4 hka hk4 hno
    go_wp2
    go_ret2
    exact ⟨.inr ⟨fun h => HOK.out (by rw [HAV.out]; exact h.2.1), _, _, rfl⟩, HK4.out⟩

end Go.Proofs.YtnfjmngchapdnaaGreatDoor

/- rsa: NewPrivateKeyWithPrecomputation. -/
namespace Go.Proofs.YtnfjmngchapdnaaGreatDoor
open Go.RowKit

/-- What a private key with what is computed ahead asks of its numbers. -/
structure KeyOk (N : Nat) (E : Int) (D P Q DP DQ QI : Nat) : Prop where
  pub : PubOk N E
  lt : D < N
  pN : P < N
  qN : Q < N
  pq : P * Q % N = 0
  p3 : 2 < P
  dp : DP < P - 1
  ep : E.toNat * DP % (P - 1) = 1
  q3 : 2 < Q
  dq : DQ < Q - 1
  eq : E.toNat * DQ % (Q - 1) = 1
  qi : Q % P * QI % P = 1
  qip : QI < P
  d1 : D % (P - 1) = DP
  d2 : D % (Q - 1) = DQ
  ne : P ≠ Q
  far : blen N / 2 < blen (P - Q + (Q - P)) + 100
  dn : blen N / 2 < blen D
theorem KeyOk.toPriv {Z : PK} (h : KeyOk Z.N.v Z.E Z.D Z.P.v Z.Q.v (bval Z.LP) (bval Z.LQ) Z.QI) : PrivOk Z :=
  ⟨h.pub, h.pN, h.qN, h.pq, h.p3, h.dp, h.ep, h.q3, h.dq, h.eq, h.qi, h.d1, h.d2, h.ne, h.far, h.dn⟩
theorem PrivOk.toKey {Z : PK} (h : PrivOk Z) (h1 : Z.D < Z.N.v) (h2 : Z.QI < Z.P.v) : KeyOk Z.N.v Z.E Z.D Z.P.v Z.Q.v (bval Z.LP) (bval Z.LQ) Z.QI :=
  ⟨h.pub, h1, h.pN, h.qN, h.pq, h.p3, h.dp, h.ep, h.q3, h.dq, h.eq, h.qi, h2, h.d1, h.d2, h.ne, h.far, h.dn⟩
/-- The numbers of a key. -/
structure PK.has (Z : PK) (N : Nat) (E : Int) (D P Q DP DQ QI : Nat) : Prop where
  n : Z.N.v = N
  e : Z.E = E
  d : Z.D = D
  p : Z.P.v = P
  q : Z.Q.v = Q
  dp : bval Z.LP = DP
  dq : bval Z.LQ = DQ
  i : Z.QI = QI
def KeyR (e : Ending) (w' : World) (N : Nat) (E : Int) (D P Q DP DQ QI : Nat) : Prop :=
  (KeyOk N E D P Q DP DQ QI ∧ ∃ Z : PK, e = .returned (.tuple #[.pointer (some ⟨Z.pk, 0, none⟩), .nilIface]) ∧ Z.is w' ∧ Z.has N E D P Q DP DQ QI) ∨
    (¬ KeyOk N E D P Q DP DQ QI ∧ ∃ t x, e = .returned (.tuple #[.pointer none, .iface t x]))

set_option maxRecDepth 1000000 in
set_option maxHeartbeats 8000000 in
theorem newPrivAll (s1 s2 s3 s4 s6 s7 : Option Addr) (s5 : Addr) (m1 c1 m2 c2 m3 c3 m4 c4 m5 c5 m6 c6 m7 c7 : Nat) (LN LD LP LQ LX LY LI : List Nat) (E : Int) (w : World)
    (h1 : SlB w s1 m1 c1 LN) (h2 : SlB w s2 m2 c2 LD) (h3 : SlB w s3 m3 c3 LP) (h4 : SlB w s4 m4 c4 LQ) (h5 : SlB w (some s5) m5 c5 LX) (h6 : SlB w s6 m6 c6 LY) (h7 : SlB w s7 m7 c7 LI)
    (hm1 : m1 ≤ 240) (hm2 : m2 ≤ 240) (hm3 : m3 ≤ 240) (hm4 : m4 ≤ 240) (hm5 : m5 ≤ 240) (hm6 : m6 ≤ 240) (hm7 : m7 ≤ 240)
    (hf2 : Fits m2 (bval LD) (bval LN)) (hf5 : Fits m5 (bval LX) (bval LP - 1)) (hf6 : Fits m6 (bval LY) (bval LQ - 1)) (hf7 : Fits m7 (bval LI) (bval LP)) (hE : -9223372036854775808 ≤ E ∧ E < 9223372036854775808) :
    Calls Tryz.prog 38 #[.slice s1 m1 c1, .int .i64 E, .slice s2 m2 c2, .slice s3 m3 c3, .slice s4 m4 c4, .slice (some s5) m5 c5, .slice s6 m6 c6, .slice s7 m7 c7] w fun e w' =>
      KeyR e w' (bval LN) E (bval LD) (bval LP) (bval LQ) (bval LX) (bval LY) (bval LI) ∧ Keeps [] w w' := by
  have HF2 := Lib.hid hf2; have HF5 := Lib.hid hf5; have HF6 := Lib.hid hf6; have HF7 := Lib.hid hf7
  have H1 := Lib.hid h1; have H2 := Lib.hid h2; have H3 := Lib.hid h3; have H4 := Lib.hid h4; have H5 := Lib.hid h5; have H6 := Lib.hid h6; have H7 := Lib.hid h7
  clear hf2 hf5 hf6 hf7 h1 h2 h3 h4 h5 h6 h7
  go_enter Tryz.func38, Tryz.ntmps38
  go_wp2_with fail
  refine (ma_NewMod s1 m1 c1 LN _ H1.out hm1).mono ?_
  rintro e w1 ⟨⟨hgt, a, hav, _, hA, _, rfl⟩ | ⟨hle, t, x, rfl⟩, hk1⟩
  rotate_left
  · go_wp2
    go_ret2
    exact ⟨.inr ⟨fun h => by have := h.pN; have := h.p3; omega, _, _, rfl⟩, hk1⟩
  have HAV := Lib.hid hav
  have HA := Lib.hid hA
  have HK := Lib.hid hk1
  clear hav hA hgt hk1
  go_wp2_with fail
  refine (ma_NewMod s3 m3 c3 LP _ (H3.out.kept HK.out) hm3).mono ?_
  rintro e w2 ⟨⟨hgt, b, hbv, hb30, hB, _, rfl⟩ | ⟨hle, t, x, rfl⟩, hs⟩
  rotate_left
  · replace HK := Lib.hid (HK.out.trans1 hs)
    clear hs
    go_wp2
    go_ret2
    exact ⟨.inr ⟨fun h => by have := h.p3; omega, _, _, rfl⟩, HK.out⟩
  have HBV := Lib.hid hbv
  have HB := Lib.hid hB
  replace HK := Lib.hid (HK.out.trans1 hs); replace HA := Lib.hid (HA.out.kept hs)
  clear hbv hB hgt hs
  go_wp2_with fail
  refine (ma_NewMod s4 m4 c4 LQ _ (H4.out.kept HK.out) hm4).mono ?_
  rintro e w3 ⟨⟨hgt, c, hcv, hc30, hC, _, rfl⟩ | ⟨hle, t, x, rfl⟩, hs⟩
  rotate_left
  · replace HK := Lib.hid (HK.out.trans1 hs)
    clear hs
    go_wp2
    go_ret2
    exact ⟨.inr ⟨fun h => by have := h.q3; omega, _, _, rfl⟩, HK.out⟩
  have HCV := Lib.hid hcv
  have HC := Lib.hid hC
  replace HK := Lib.hid (HK.out.trans1 hs); replace HA := Lib.hid (HA.out.kept hs); replace HB := Lib.hid (HB.out.kept hs)
  clear hcv hC hgt hs
  go_wp2_with fail
  refine (newNat_any _).mono ?_
  rintro e w4 ⟨p, l, rfl, hx, hp, hl, hk⟩
  go_wp2_with fail
  refine (ma_SetBytes p l 0 0 a _ _ _ LD _ hx (HA.out.kept hk) ((H2.out.kept HK.out).kept hk) (HA.out.old hl).2.2.1 (by omega)).mono ?_
  rintro e w5 ⟨hR, hk'⟩
  have hs := hk.two hp hl hk'
  replace HK := Lib.hid (HK.out.trans1 hs); replace HA := Lib.hid (HA.out.kept hs); replace HB := Lib.hid (HB.out.kept hs); replace HC := Lib.hid (HC.out.kept hs)
  clear hx hk hp hl hk' hs
  rcases hR with ⟨_, hlt, rfl, hx⟩ | ⟨hno, t, x, rfl⟩
  rotate_left
  · have HNO : Hid (¬ bval LD < bval LN) := Lib.hid fun h => hno ⟨HF2.out a.n (by rw [← HAV.out]; exact HA.out.lt) h, by rw [HAV.out]; exact h⟩
    clear hno
    go_wp2
    go_ret2
    exact ⟨.inr ⟨fun h => HNO.out h.lt, _, _, rfl⟩, HK.out⟩
  have HLT := Lib.hid hlt; have HX := Lib.hid hx
  clear hlt hx
  go_wp2_with fail
  refine (newNat_any _).mono ?_
  rintro e w6 ⟨q, r, rfl, hx, hp, hl, hk⟩
  go_wp2_with fail
  refine (ma_SetBytes q r 0 0 b _ _ _ LI _ hx (HB.out.kept hk) ((H7.out.kept HK.out).kept hk) (HB.out.old hl).2.2.1 (by omega)).mono ?_
  rintro e w7 ⟨hR, hk'⟩
  have hs := hk.two hp hl hk'
  replace HK := Lib.hid (HK.out.trans1 hs); replace HA := Lib.hid (HA.out.kept hs); replace HB := Lib.hid (HB.out.kept hs); replace HC := Lib.hid (HC.out.kept hs); replace HX := Lib.hid (HX.out.kept hs)
  clear hx hk hp hl hk' hs
  rcases hR with ⟨_, hlt, rfl, hx⟩ | ⟨hno, t, x, rfl⟩
  rotate_left
  · have HNO : Hid (¬ bval LI < bval LP) := Lib.hid fun h => hno ⟨HF7.out b.n (by rw [← HBV.out]; exact HB.out.lt) h, by rw [HBV.out]; exact h⟩
    clear hno
    go_wp2
    go_ret2
    exact ⟨.inr ⟨fun h => HNO.out h.qip, _, _, rfl⟩, HK.out⟩
  have HLT2 := Lib.hid hlt; have HX2 := Lib.hid hx
  clear hlt hx
  go_wp2_with fail
  have hka : Keeps [] w7 (w7.alloc (.cells (PK.cells ⟨w7.heap.size, a, E, p, l, bval LD, b, c, s5, m5, c5, LX, s6, m6, c6, LY, q, r, bval LI⟩ false) 99)) := (Keeps.refl _ _).alloc _
  have hI : PK.is ⟨w7.heap.size, a, E, p, l, bval LD, b, c, s5, m5, c5, LX, s6, m6, c6, LY, q, r, bval LI⟩ (w7.alloc (.cells (PK.cells ⟨w7.heap.size, a, E, p, l, bval LD, b, c, s5, m5, c5, LX, s6, m6, c6, LY, q, r, bval LI⟩ false) 99)) :=
    ⟨⟨false, alloc_blk _ _⟩, HA.out.kept hka, HB.out.kept hka, HC.out.kept hka, HX.out.kept hka, HX2.out.kept hka, (H5.out.kept HK.out).kept hka, (H6.out.kept HK.out).kept hka, hm5, hm6, hE, hb30, hc30⟩
  have HKA := Lib.hid (HK.out.trans1 hka)
  refine (checkPriv_any ⟨w7.heap.size, a, E, p, l, bval LD, b, c, s5, m5, c5, LX, s6, m6, c6, LY, q, r, bval LI⟩ _ hI (by rw [HBV.out]; exact HF5.out) (by rw [HCV.out]; exact HF6.out)).mono ?_
  rintro e w8 ⟨⟨v, rfl, ⟨hok, rfl⟩ | ⟨hno, t, x, rfl⟩⟩, hI4, hk4⟩
  · have HI4 := Lib.hid hI4; have HK4 := Lib.hid (HKA.out.newblk HK.out.size hk4)
    have HOK : Hid (KeyOk (bval LN) E (bval LD) (bval LP) (bval LQ) (bval LX) (bval LY) (bval LI)) := Lib.hid (by
      have h := hok.toKey HLT.out HLT2.out
      rw [← HAV.out, ← HBV.out, ← HCV.out]; exact h)
    clear hI hI4 hka hk4 hok
    go_wp2
    go_ret2
    exact ⟨.inl ⟨HOK.out, _, rfl, HI4.out, ⟨HAV.out, rfl, rfl, HBV.out, HCV.out, rfl, rfl, rfl⟩⟩, HK4.out⟩
  · have HK4 := Lib.hid (HKA.out.newblk HK.out.size hk4)
    have HOK : Hid (¬ KeyOk (bval LN) E (bval LD) (bval LP) (bval LQ) (bval LX) (bval LY) (bval LI)) := Lib.hid fun h => hno (KeyOk.toPriv (by
      show KeyOk a.v E _ b.v c.v _ _ _
      rw [HAV.out, HBV.out, HCV.out]; exact h))
    clear hI hI4 hka hk4 hno
    go_wp2
    go_ret2
    exact ⟨.inr ⟨HOK.out, _, _, rfl⟩, HK4.out⟩

end Go.Proofs.YtnfjmngchapdnaaGreatDoor
