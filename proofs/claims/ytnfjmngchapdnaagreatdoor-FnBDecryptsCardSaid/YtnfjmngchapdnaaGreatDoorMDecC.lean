import Derived.Test.YtnfjmngchapdnaaGreatDoorMKeyN
import Derived.Test.YtnfjmngchapdnaaGreatDoorMBPr
import Derived.Test.YtnfjmngchapdnaaGreatDoorMBDec
import Derived.Deep.DeepCutAuto
/- rsa.decrypt: its text cut at regions; sums and differences modulo. -/
namespace Go.Proofs.YtnfjmngchapdnaaGreatDoor
open Go.RowKit

theorem ma_Add (p lb c v q lc c' u : Nat) (a : MA) (w : World) (hx : NatV w p lb a.n c v) (hy : NatV w q lc a.n c' u) (h : a.is w) (hl : a.l ≠ lb) (hv : v < a.v) (hu : u < a.v) :
    Calls Tryz.prog 104 #[.pointer (some ⟨p, 0, none⟩), .pointer (some ⟨q, 0, none⟩), .pointer (some ⟨a.m, 0, none⟩)] w fun e w' =>
      e = .returned (.pointer (some ⟨p, 0, none⟩)) ∧ NatV w' p lb a.n c ((v + u) % a.v) ∧ Keeps [lb] w w' := by
  obtain ⟨o, m0, rv, hb⟩ := ModX.modB h
  exact nat_Add p lb q lc a.n c c' v u a.m a.p a.l a.v m0 o rv w hx hy hb hl hv hu
theorem ma_Sub (p lb c v q lc c' u : Nat) (a : MA) (w : World) (hx : NatV w p lb a.n c v) (hy : NatV w q lc a.n c' u) (h : a.is w) (hl : a.l ≠ lb) (hu : u < a.v) :
    Calls Tryz.prog 80 #[.pointer (some ⟨p, 0, none⟩), .pointer (some ⟨q, 0, none⟩), .pointer (some ⟨a.m, 0, none⟩)] w fun e w' =>
      e = .returned (.pointer (some ⟨p, 0, none⟩)) ∧ ∃ v', (u ≤ v → v' + u = v) ∧ (v < u → v' + u = v + a.v) ∧ NatV w' p lb a.n c v' ∧ Keeps [lb] w w' := by
  obtain ⟨o, m0, rv, hb⟩ := ModX.modB h
  exact nat_Sub p lb q lc a.n c c' v u a.m a.p a.l a.v m0 o rv w hx hy hb hl (by omega)
theorem Pr.odd {p : Nat} (h : Pr p) (h2 : 2 < p) : p % 2 = 1 := by
  rcases Nat.mod_two_eq_zero_or_one p with h0 | h0
  · have := h.2 2 (Nat.dvd_of_mod_eq_zero h0); omega
  · exact h0
theorem MA.is.n_le {a b : MA} {w : World} (ha : a.is w) (hb : b.is w) (h : a.v < b.v) : a.n ≤ b.n := by
  rcases Nat.lt_or_ge b.n a.n with hlt | hge
  · exfalso
    have h1 := ModX.top ha
    have h2 := hb.lt
    have h3 : BB ^ b.n ≤ BB ^ (a.n - 1) := Nat.pow_le_pow_right (by decide) (by omega)
    omega
  · exact hge
theorem KeyOk.D0 {N : Nat} {E : Int} {D P Q DP DQ QI : Nat} (h : KeyOk N E D P Q DP DQ QI) : 0 < D := by
  rcases Nat.eq_zero_or_pos D with h0 | h0
  · have h1 := h.dn
    rw [h0, show blen 0 = 0 from rfl] at h1
    omega
  · exact h0
theorem KeyOk.DP0 {N : Nat} {E : Int} {D P Q DP DQ QI : Nat} (h : KeyOk N E D P Q DP DQ QI) : 0 < DP := by
  rcases Nat.eq_zero_or_pos DP with h0 | h0
  · have h1 := h.ep
    rw [h0] at h1
    simp at h1
  · exact h0
theorem KeyOk.DQ0 {N : Nat} {E : Int} {D P Q DP DQ QI : Nat} (h : KeyOk N E D P Q DP DQ QI) : 0 < DQ := by
  rcases Nat.eq_zero_or_pos DQ with h0 | h0
  · have h1 := h.eq
    rw [h0] at h1
    simp at h1
  · exact h0
theorem KeyOk.r1 {N : Nat} {E : Int} {D P Q DP DQ QI : Nat} (h : KeyOk N E D P Q DP DQ QI) : D % (P - 1) = DP % (P - 1) := by rw [h.d1, Nat.mod_eq_of_lt h.dp]
theorem KeyOk.r2 {N : Nat} {E : Int} {D P Q DP DQ QI : Nat} (h : KeyOk N E D P Q DP DQ QI) : D % (Q - 1) = DQ % (Q - 1) := by rw [h.d2, Nat.mod_eq_of_lt h.dq]

theorem ni2 {x a b : Nat} (h1 : x ≠ a) (h2 : x ≠ b) : x ∉ [a, b] := by simp [h1, h2]
theorem ni1 {x a : Nat} (h1 : x ≠ a) : x ∉ [a] := by simp [h1]

def regIn (n : Nat) : Code → Option Code
  | .seq a b => if firstReg a = some n then some a else match regIn n a with
    | some c => some c
    | none => regIn n b
  | .cond _ a b => match regIn n a with
    | some c => some c
    | none => regIn n b
  | _ => none
def tailIn (n : Nat) : Code → Option Code
  | .seq a b => if firstReg a = some n then some b else match tailIn n a with
    | some c => some c
    | none => tailIn n b
  | .cond _ a b => match tailIn n a with
    | some c => some c
    | none => tailIn n b
  | _ => none
noncomputable def dRest : Code := ((Tryz.f82.body.bind (tailOf 6)).getD .skip)
noncomputable def dReg10 : Code := ((Tryz.f82.body.bind (regIn 10)).getD .skip)
noncomputable def dTail10 : Code := ((Tryz.f82.body.bind (tailIn 10)).getD .skip)
noncomputable def dReg11 : Code := ((Tryz.f82.body.bind (regIn 11)).getD .skip)
noncomputable def dTail11 : Code := ((Tryz.f82.body.bind (tailIn 11)).getD .skip)
noncomputable def dReg12 : Code := ((Tryz.f82.body.bind (regIn 12)).getD .skip)
noncomputable def dTail12 : Code := ((Tryz.f82.body.bind (tailIn 12)).getD .skip)
/-- What decryption leaves, and that nothing else is touched. -/
def decPost (a : MA) (mb : Nat) (a0 : Addr) (v r : Nat) (w : World) (e : Ending) (w' : World) : Prop := DecR e w' a mb a0 w.heap.size v r ∧ Keeps [] w w'

end Go.Proofs.YtnfjmngchapdnaaGreatDoor

/- rsa.decrypt with primes, from its region 12 on. -/
namespace Go.Proofs.YtnfjmngchapdnaaGreatDoor
open Go.RowKit

set_option maxRecDepth 1000000 in
set_option maxHeartbeats 8000000 in
theorem dec12 {K0 K1 : Act → World → Prop} (Z : PK) (w0 : World) (mb : Nat) (a0 : Addr) (c r : Nat) (qc lc q0 l0 : Nat)
    (HZ : Hid (Z.is w0)) (HF : Hid (mb ≤ 8 * Z.N.n ∧ c < Z.N.v)) (HKO : Hid (KeyOk Z.N.v Z.E Z.D Z.P.v Z.Q.v (bval Z.LP) (bval Z.LQ) Z.QI)) (HP : Hid (Pr Z.P.v)) (HQ : Hid (Pr Z.Q.v)) (HR : Hid (r = c ^ Z.D % Z.N.v))
    (w : World) (HK : Hid (Keeps [] w0 w)) (z0 : w0.heap.size ≤ q0) (z1 : w0.heap.size ≤ l0)
    (V1 V2 q1 l1 q2 l2 : Nat) (y0 : w0.heap.size ≤ q1) (y1 : w0.heap.size ≤ l1) (x0 : w0.heap.size ≤ q2) (x1 : w0.heap.size ≤ l2)
    (D01 : Hid ((q0 ≠ q1 ∧ l0 ≠ q1) ∧ q0 ≠ l1 ∧ l0 ≠ l1)) (D02 : Hid ((q0 ≠ q2 ∧ l0 ≠ q2) ∧ q0 ≠ l2 ∧ l0 ≠ l2)) (D12 : Hid ((q1 ≠ q2 ∧ l1 ≠ q2) ∧ q1 ≠ l2 ∧ l1 ≠ l2))
    (H0 : Hid (NatV w q0 l0 Z.Q.n 32 (c % Z.Q.v))) (HM : Hid (NatV w q1 l1 Z.P.n 32 V1)) (HN : Hid (NatV w q2 l2 Z.Q.n 32 V2))
    (HV1 : Hid (V1 = (c % Z.P.v) ^ bval Z.LP % Z.P.v)) (HV2 : Hid (V2 = (c % Z.Q.v) ^ bval Z.LQ % Z.Q.v))
    {u1 u3 u4 u5 u6 u7 u10 u11 u12 u17 u18 u19 u20 u21 u22 u23 u24 u25 u26 u27 u28 u29 u30 u31 u32 u33 u34 u35 u36 u37 u38 u39 u40 u41 u42 u43 u44 u45 u46 u47 u48 u49 u50 u51 u52 u53 u54 u55 u56 u57 u58 u59 u60 u61 u62 u63 u64 u65 u66 u67 u68 u69 u70 u71 u72 u73 u74 u75 u76 u77 u78 u79 u80 u81 u82 u83 u84 u85 u86 u87 u88 u89 u90 u91 u92 u93 u94 u95 u96 u97 u98 u99 u100 u101 u102 u103 u104 u105 u106 u107 u108 u109 u110 u111 u112 u113 u114 u115 u116 u117 u118 u119 u120 u121 u122 u123 u124 u125 u126 u127 u128 : Value}
    (h0 : ∀ a w, Code.wp Tryz.prog dRest (bodyPost Tryz.prog Tryz.f82 (decPost Z.N mb a0 c r w0)) a w → K0 a w)
    (h1 : ∀ a w, Code.wp Tryz.prog dTail12 (Exit.then K0 (bodyPost Tryz.prog Tryz.f82 (decPost Z.N mb a0 c r w0))) a w → K1 a w) :
    Code.wp Tryz.prog dReg12 (Exit.then K1 (Exit.then K0 (bodyPost Tryz.prog Tryz.f82 (decPost Z.N mb a0 c r w0)))) ⟨#[.pointer (some ⟨Z.pk, 0, none⟩), u1, .bool false, u3, u4, u5, u6, u7, .pointer (some ⟨q1, 0, none⟩), .pointer (some ⟨Z.N.m, 0, none⟩), u10, u11, u12, .pointer (some ⟨Z.P.m, 0, none⟩), .pointer (some ⟨Z.Q.m, 0, none⟩), .pointer (some ⟨q0, 0, none⟩), .pointer (some ⟨q2, 0, none⟩), u17, u18, u19, u20, u21, u22, u23, u24, u25, u26, u27, u28, u29, u30, u31, u32, u33, u34, u35, u36, u37, u38, u39, u40, u41, u42, u43, u44, u45, u46, u47, u48, u49, u50, u51, u52, u53, u54, u55, u56, u57, u58, u59, u60, u61, u62, u63, u64, u65, u66, u67, u68, u69, u70, u71, u72, u73, u74, u75, u76, u77, u78, u79, u80, u81, u82, u83, u84, u85, u86, u87, u88, u89, u90, u91, u92, u93, u94, u95, u96, u97, u98, u99, u100, u101, u102, u103, u104, u105, u106, u107, u108, u109, u110, u111, u112, u113, u114, u115, u116, u117, u118, u119, u120, u121, u122, u123, u124, u125, u126, u127, u128], []⟩ w := by
  conv => arg 2; whnf
  have hpo := HP.out.odd HKO.out.p3
  have hqo := HQ.out.odd HKO.out.q3
  have pn := HZ.out.P.n_le HZ.out.N HKO.out.pN
  have qn := HZ.out.Q.n_le HZ.out.N HKO.out.qN
  have n31 := HZ.out.N.n31
  have mP := HZ.out.mP; have mQ := HZ.out.mQ
  have pg := HZ.out.P.gt; have qg := HZ.out.Q.gt; have ng := HZ.out.N.gt
  have qN := HKO.out.qN
  have lV1 : V1 < Z.P.v := by rw [HV1.out]; exact Nat.mod_lt _ (by omega)
  have lV2 : V2 < Z.Q.v := by rw [HV2.out]; exact Nat.mod_lt _ (by omega)
  go_wp2_with fail
  refine (ma_Mod q0 l0 _ _ q2 l2 _ 32 V2 Z.P _ H0.out HN.out (HZ.out.P.kept HK.out) (HZ.out.P.old z1).2.2.1 (Ne.symm D02.out.2.2) D02.out.1.1 (Ne.symm (HZ.out.P.old z0).2.1) (by omega)).mono ?_
  rintro e w10 ⟨rfl, h0', h1'⟩
  replace H0 := Lib.hid h0'
  replace HM := Lib.hid (HM.out.keeps h1' (ni2 (Ne.symm D01.out.1.1) (Ne.symm D01.out.1.2)) (ni2 (Ne.symm D01.out.2.1) (Ne.symm D01.out.2.2)))
  replace HN := Lib.hid (HN.out.keeps h1' (ni2 (Ne.symm D02.out.1.1) (Ne.symm D02.out.1.2)) (ni2 (Ne.symm D02.out.2.1) (Ne.symm D02.out.2.2)))
  replace HK := Lib.hid (HK.out.two z0 z1 h1')
  clear h0' h1'
  go_wp2_with fail
  refine (ma_Sub q1 l1 32 V1 q0 l0 32 _ Z.P _ HM.out H0.out (HZ.out.P.kept HK.out) (HZ.out.P.old y1).2.2.1 (Nat.mod_lt _ (by omega))).mono ?_
  rintro e w11 ⟨rfl, S, hS1, hS2, hM, h1'⟩
  have HS1 := Lib.hid hS1; have HS2 := Lib.hid hS2
  replace HM := Lib.hid hM
  replace H0 := Lib.hid (H0.out.keeps h1' (ni1 D01.out.2.1) (ni1 D01.out.2.2))
  replace HN := Lib.hid (HN.out.keeps h1' (ni1 (Ne.symm D12.out.1.2)) (ni1 (Ne.symm D12.out.2.2)))
  replace HK := Lib.hid (HK.out.one y1 h1')
  clear hM h1' hS1 hS2
  have c7 := (HZ.out.kept HK.out).c7
  go_wp2_with fail
  conv => arg 2; whnf
  go_wp2_with fail
  refine (ma_Mul q1 l1 32 S Z.i Z.li 32 Z.QI Z.P _ HM.out (HZ.out.i.kept HK.out) (HZ.out.P.kept HK.out) (HZ.out.P.old y1).2.2.1 (by omega)).mono ?_
  rintro e w12 ⟨rfl, hM, h1'⟩
  replace HM := Lib.hid hM
  replace H0 := Lib.hid (H0.out.keeps h1' (ni2 D01.out.1.1 D01.out.2.1) (ni2 D01.out.1.2 D01.out.2.2))
  replace HN := Lib.hid (HN.out.keeps h1' (ni2 (Ne.symm D12.out.1.1) (Ne.symm D12.out.1.2)) (ni2 (Ne.symm D12.out.2.1) (Ne.symm D12.out.2.2)))
  replace HK := Lib.hid (HK.out.two y0 y1 h1')
  clear hM h1' c7
  go_wp2_with fail
  refine (ma_ExpandFor q1 l1 Z.P.n _ Z.N _ HM.out (HZ.out.N.kept HK.out) pn).mono ?_
  rintro e w13 ⟨rfl, hM, h1'⟩
  replace HM := Lib.hid hM
  replace H0 := Lib.hid (H0.out.keeps h1' (ni2 D01.out.1.1 D01.out.2.1) (ni2 D01.out.1.2 D01.out.2.2))
  replace HN := Lib.hid (HN.out.keeps h1' (ni2 (Ne.symm D12.out.1.1) (Ne.symm D12.out.1.2)) (ni2 (Ne.symm D12.out.2.1) (Ne.symm D12.out.2.2)))
  replace HK := Lib.hid (HK.out.two y0 y1 h1')
  clear hM h1'
  go_wp2_with fail
  refine (ma_Nat Z.Q _ (HZ.out.Q.kept HK.out)).mono ?_
  rintro e w14 ⟨q3, l3, rfl, hQ, hq3, hl3, h1'⟩
  have r1 := Lib.hid (H0.out.old hq3); have r2 := Lib.hid (H0.out.old hl3)
  replace HM := Lib.hid (HM.out.kept h1')
  replace H0 := Lib.hid (H0.out.kept h1')
  replace HN := Lib.hid (HN.out.kept h1')
  replace HK := Lib.hid (HK.out.trans1 h1')
  clear h1'
  go_wp2_with fail
  refine (ma_Mod q0 l0 _ _ q3 l3 _ 32 Z.Q.v Z.N _ H0.out hQ (HZ.out.N.kept HK.out) (HZ.out.N.old z1).2.2.1 (Ne.symm r2.out.2) r1.out.1 (Ne.symm (HZ.out.N.old z0).2.1) (by omega)).mono ?_
  rintro e w15 ⟨rfl, h0', h1'⟩
  replace H0 := Lib.hid h0'
  replace HM := Lib.hid (HM.out.keeps h1' (ni2 (Ne.symm D01.out.1.1) (Ne.symm D01.out.1.2)) (ni2 (Ne.symm D01.out.2.1) (Ne.symm D01.out.2.2)))
  replace HN := Lib.hid (HN.out.keeps h1' (ni2 (Ne.symm D02.out.1.1) (Ne.symm D02.out.1.2)) (ni2 (Ne.symm D02.out.2.1) (Ne.symm D02.out.2.2)))
  replace HK := Lib.hid (HK.out.two z0 z1 h1')
  clear h0' h1' hQ r1 r2 hq3 hl3
  go_wp2_with fail
  refine (ma_Mul q1 l1 32 _ q0 l0 32 _ Z.N _ HM.out H0.out (HZ.out.N.kept HK.out) (HZ.out.N.old y1).2.2.1 (by omega)).mono ?_
  rintro e w16 ⟨rfl, hM, h1'⟩
  replace HM := Lib.hid hM
  replace HN := Lib.hid (HN.out.keeps h1' (ni2 (Ne.symm D12.out.1.1) (Ne.symm D12.out.1.2)) (ni2 (Ne.symm D12.out.2.1) (Ne.symm D12.out.2.2)))
  replace HK := Lib.hid (HK.out.two y0 y1 h1')
  clear hM h1' H0
  go_wp2_with fail
  refine (ma_ExpandFor q2 l2 Z.Q.n V2 Z.N _ HN.out (HZ.out.N.kept HK.out) qn).mono ?_
  rintro e w17 ⟨rfl, hN, h1'⟩
  replace HN := Lib.hid hN
  replace HM := Lib.hid (HM.out.keeps h1' (ni2 D12.out.1.1 D12.out.2.1) (ni2 D12.out.1.2 D12.out.2.2))
  replace HK := Lib.hid (HK.out.two x0 x1 h1')
  clear hN h1'
  go_wp2_with fail
  refine (ma_Add q1 l1 32 _ q2 l2 32 V2 Z.N _ HM.out HN.out (HZ.out.N.kept HK.out) (HZ.out.N.old y1).2.2.1 (Nat.mod_lt _ (by omega)) (by omega)).mono ?_
  rintro e w18 ⟨rfl, hM, h1'⟩
  rw [crt_dec HP.out HQ.out HKO.out.pN HKO.out.qN HKO.out.pq HKO.out.ne HKO.out.D0 HKO.out.DP0 HKO.out.DQ0 HKO.out.r1 HKO.out.r2 HKO.out.qi HV1.out HV2.out HS1.out HS2.out, ← HR.out] at hM
  have hr : r ≤ Z.N.v := by rw [HR.out]; exact Nat.le_of_lt (Nat.mod_lt _ (by omega))
  replace HM := Lib.hid hM
  replace HK := Lib.hid (HK.out.one y1 h1')
  clear hM h1' HN HS1 HS2 HV1 HV2
  go_wp2_with fail
  conv => arg 2; whnf
  go_wp2_with fail
  refine (ma_Bytes q1 l1 32 _ Z.N _ HM.out (HZ.out.N.kept HK.out) hr).mono ?_
  rintro e w19 ⟨⟨b, O, rfl, hb, hO, hOv⟩, h1'⟩
  have HB := Lib.hid (Nat.le_trans HK.out.size hb); have HO := Lib.hid hO; have HOv := Lib.hid hOv
  replace HK := Lib.hid (HK.out.trans1 h1')
  clear hb hO hOv h1'
  go_wp2_with fail
  go_ret2
  exact ⟨.inl ⟨HF.out.1, HF.out.2, b, O, rfl, HB.out, HO.out, HOv.out⟩, HK.out⟩

end Go.Proofs.YtnfjmngchapdnaaGreatDoor

/- rsa.decrypt with primes, from its region 11 on. -/
namespace Go.Proofs.YtnfjmngchapdnaaGreatDoor
open Go.RowKit

set_option maxRecDepth 1000000 in
set_option maxHeartbeats 8000000 in
theorem dec11 {K0 K1 : Act → World → Prop} (Z : PK) (w0 : World) (mb : Nat) (a0 : Addr) (c r : Nat) (qc lc q0 l0 : Nat)
    (HZ : Hid (Z.is w0)) (HF : Hid (mb ≤ 8 * Z.N.n ∧ c < Z.N.v)) (HKO : Hid (KeyOk Z.N.v Z.E Z.D Z.P.v Z.Q.v (bval Z.LP) (bval Z.LQ) Z.QI)) (HP : Hid (Pr Z.P.v)) (HQ : Hid (Pr Z.Q.v)) (HR : Hid (r = c ^ Z.D % Z.N.v))
    (w : World) (HK : Hid (Keeps [] w0 w)) (z0 : w0.heap.size ≤ q0) (z1 : w0.heap.size ≤ l0)
    (V1 q1 l1 : Nat) (y0 : w0.heap.size ≤ q1) (y1 : w0.heap.size ≤ l1)
    (D01 : Hid ((q0 ≠ q1 ∧ l0 ≠ q1) ∧ q0 ≠ l1 ∧ l0 ≠ l1)) (DC0 : Hid ((qc ≠ q0 ∧ lc ≠ q0) ∧ qc ≠ l0 ∧ lc ≠ l0))
    (HC : Hid (NatV w qc lc Z.N.n 32 c)) (H0 : Hid (NatV w q0 l0 Z.P.n 32 (c % Z.P.v))) (HM : Hid (NatV w q1 l1 Z.P.n 32 V1))
    (HV1 : Hid (V1 = (c % Z.P.v) ^ bval Z.LP % Z.P.v))
    {u1 u3 u4 u5 u6 u7 u10 u12 u16 u17 u18 u19 u20 u21 u22 u23 u24 u25 u26 u27 u28 u29 u30 u31 u32 u33 u34 u35 u36 u37 u38 u39 u40 u41 u42 u43 u44 u45 u46 u47 u48 u49 u50 u51 u52 u53 u54 u55 u56 u57 u58 u59 u60 u61 u62 u63 u64 u65 u66 u67 u68 u69 u70 u71 u72 u73 u74 u75 u76 u77 u78 u79 u80 u81 u82 u83 u84 u85 u86 u87 u88 u89 u90 u91 u92 u93 u94 u95 u96 u97 u98 u99 u100 u101 u102 u103 u104 u105 u106 u107 u108 u109 u110 u111 u112 u113 u114 u115 u116 u117 u118 u119 u120 u121 u122 u123 u124 u125 u126 u127 u128 : Value}
    (h0 : ∀ a w, Code.wp Tryz.prog dRest (bodyPost Tryz.prog Tryz.f82 (decPost Z.N mb a0 c r w0)) a w → K0 a w)
    (h1 : ∀ a w, Code.wp Tryz.prog dTail11 (Exit.then K0 (bodyPost Tryz.prog Tryz.f82 (decPost Z.N mb a0 c r w0))) a w → K1 a w) :
    Code.wp Tryz.prog dReg11 (Exit.then K1 (Exit.then K0 (bodyPost Tryz.prog Tryz.f82 (decPost Z.N mb a0 c r w0)))) ⟨#[.pointer (some ⟨Z.pk, 0, none⟩), u1, .bool false, u3, u4, u5, u6, u7, .pointer (some ⟨q1, 0, none⟩), .pointer (some ⟨Z.N.m, 0, none⟩), u10, .pointer (some ⟨qc, 0, none⟩), u12, .pointer (some ⟨Z.P.m, 0, none⟩), .pointer (some ⟨Z.Q.m, 0, none⟩), .pointer (some ⟨q0, 0, none⟩), u16, u17, u18, u19, u20, u21, u22, u23, u24, u25, u26, u27, u28, u29, u30, u31, u32, u33, u34, u35, u36, u37, u38, u39, u40, u41, u42, u43, u44, u45, u46, u47, u48, u49, u50, u51, u52, u53, u54, u55, u56, u57, u58, u59, u60, u61, u62, u63, u64, u65, u66, u67, u68, u69, u70, u71, u72, u73, u74, u75, u76, u77, u78, u79, u80, u81, u82, u83, u84, u85, u86, u87, u88, u89, u90, u91, u92, u93, u94, u95, u96, u97, u98, u99, u100, u101, u102, u103, u104, u105, u106, u107, u108, u109, u110, u111, u112, u113, u114, u115, u116, u117, u118, u119, u120, u121, u122, u123, u124, u125, u126, u127, u128], []⟩ w := by
  conv => arg 2; whnf
  have hpo := HP.out.odd HKO.out.p3
  have hqo := HQ.out.odd HKO.out.q3
  have pn := HZ.out.P.n_le HZ.out.N HKO.out.pN
  have qn := HZ.out.Q.n_le HZ.out.N HKO.out.qN
  have n31 := HZ.out.N.n31
  have mP := HZ.out.mP; have mQ := HZ.out.mQ
  have pg := HZ.out.P.gt; have qg := HZ.out.Q.gt; have ng := HZ.out.N.gt
  have qN := HKO.out.qN
  have c6 := (HZ.out.kept HK.out).c6
  go_wp2_with fail
  refine wp_region_txt [2,0,0,0,2,0,0,0,0,0,2,0] (fun w' => w'.cell? ⟨Z.pk, 6, none⟩ = some (.slice Z.aQ Z.mQ Z.cQ)) (by kernel_rfl) (by kernel_rfl) c6 ?_
  simp only [withMarks]
  repeat (first
    | ((with_reducible refine txt_v (v := ?_) ?_ ?_); (any_goals ((with_reducible refine Yl.mk ?_ ?_); rfl; intro w hSw; (go_simp <;> (try go_bits) <;> (repeat (first | rw [if_pos (by omega)] | rw [if_neg (by omega)])) <;> with_reducible rfl))); try simp only [Act.put, List.setIfInBounds_toArray, List.set_cons_zero, List.set_cons_succ])
    | ((with_reducible refine txt_u ?_ ?_); rfl; try simp only [Act.put, List.setIfInBounds_toArray, List.set_cons_zero, List.set_cons_succ])
    | ((with_reducible refine txt_l (v := ?_) ?_ ?_); (any_goals ((with_reducible refine Reads.mk ?_ ?_); rfl; (go_simp <;> (try go_bits) <;> (repeat (first | rw [if_pos (by omega)] | rw [if_neg (by omega)])) <;> with_reducible rfl))); try simp only [Act.put, List.setIfInBounds_toArray, List.set_cons_zero, List.set_cons_succ])
    | ((with_reducible refine txt_e ?_ ?_); rfl; intro K hK; go_simp; (first | (refine hK _ _ (by first | exact (HZ.out.kept k6).c6 | exact (HZ.out.kept k5).c6 | exact (HZ.out.kept k4).c6 | exact c6) ?_) | ((first | (go_at_call 72; refine (ma_Exp q2 l2 0 0 q0 l0 32 (c % Z.Q.v) Z.Q Z.aQ Z.mQ Z.cQ Z.LQ _ hN h0 (HZ.out.Q.kept k5) hqo oe.out.2.2.1 oe.out.2.2.2.2 (HZ.out.dQ.kept k5) (by omega)).mono ?_; rintro e w9 ⟨rfl, hN, h6⟩; have k6 := k5.two x0 x1 h6) | (go_at_call 70; refine (ma_Mod q0 l0 Z.P.n (c % Z.P.v) qc lc Z.N.n 32 c Z.Q _ (H0.out.kept h4) (HC.out.kept h4) (HZ.out.Q.kept k4) (HZ.out.Q.old z1).2.2.1 DC0.out.2.2 (Ne.symm DC0.out.1.1) (Ne.symm (HZ.out.Q.old z0).2.1) (by omega)).mono ?_; rintro e w8 ⟨rfl, h0, h5⟩; have k5 := k4.two z0 z1 h5; replace hN := hN.keeps h5 (ni2 (Ne.symm m1.out.1) (Ne.symm m1.out.2)) (ni2 (Ne.symm m2.out.1) (Ne.symm m2.out.2))) | (go_at_call 51; refine (newNat_any _).mono ?_; rintro e w7' ⟨q2, l2, rfl, hN, hq2, hl2, h4'⟩; have h4 := (Keeps.refl [] _).drew.trans1 h4'; have k4 := HK.out.trans1 h4; have x0 : w0.heap.size ≤ q2 := Nat.le_trans HK.out.size hq2; have x1 : w0.heap.size ≤ l2 := Nat.le_trans HK.out.size hl2; have m1 := Lib.hid (H0.out.old hq2); have m2 := Lib.hid (H0.out.old hl2); have m5 := Lib.hid (HM.out.old hq2); have m6 := Lib.hid (HM.out.old hl2); have oe := Lib.hid (HZ.out.Q.old x1))); dsimp only; refine hK _ _ (by first | exact (HZ.out.kept k6).c6 | exact (HZ.out.kept k5).c6 | exact (HZ.out.kept k4).c6 | exact c6) ?_)); clear hK K; try simp only [Act.put, List.setIfInBounds_toArray, List.set_cons_zero, List.set_cons_succ]))
  refine txt_nil ?_
  obtain ⟨V2, hV2⟩ : ∃ V2, V2 = (c % Z.Q.v) ^ bval Z.LQ % Z.Q.v := ⟨_, rfl⟩
  rw [← hV2] at hN
  have HV2 := Lib.hid hV2
  have HNx := Lib.hid hN
  have ka := h0.keeps h6 (ni2 m1.out.1 m2.out.1) (ni2 m1.out.2 m2.out.2)
  have kb := ((HM.out.kept h4).keeps h5 (ni2 (Ne.symm D01.out.1.1) (Ne.symm D01.out.1.2)) (ni2 (Ne.symm D01.out.2.1) (Ne.symm D01.out.2.2))).keeps h6 (ni2 m5.out.1 m6.out.1) (ni2 m5.out.2 m6.out.2)
  have HMx := Lib.hid kb; have H0x := Lib.hid ka
  have HKx := Lib.hid k6
  clear hV2 ka kb h0 hN h4 h4' h5 h6 k4 k5 k6 oe c6 HC HM H0 HK
  go_wp2_with fail
  conv => arg 2; whnf
  go_upto_region 12 with fail
  rename_i kx hx
  exact dec12 Z w0 mb a0 c r qc lc q0 l0 HZ HF HKO HP HQ HR _ HKx z0 z1 V1 V2 q1 l1 q2 l2 y0 y1 x0 x1 D01 (Lib.hid ⟨m1.out, m2.out⟩) (Lib.hid ⟨m5.out, m6.out⟩) H0x HMx HNx HV1 HV2 h0 hx

end Go.Proofs.YtnfjmngchapdnaaGreatDoor

/- rsa.decrypt with primes, from its region 10 on. -/
namespace Go.Proofs.YtnfjmngchapdnaaGreatDoor
open Go.RowKit

set_option maxRecDepth 1000000 in
set_option maxHeartbeats 8000000 in
theorem dec10 {K0 K1 : Act → World → Prop} (Z : PK) (w0 : World) (mb : Nat) (a0 : Addr) (c r : Nat) (qc lc q0 l0 : Nat)
    (HZ : Hid (Z.is w0)) (HF : Hid (mb ≤ 8 * Z.N.n ∧ c < Z.N.v)) (HKO : Hid (KeyOk Z.N.v Z.E Z.D Z.P.v Z.Q.v (bval Z.LP) (bval Z.LQ) Z.QI)) (HP : Hid (Pr Z.P.v)) (HQ : Hid (Pr Z.Q.v)) (HR : Hid (r = c ^ Z.D % Z.N.v))
    (w : World) (HK : Hid (Keeps [] w0 w)) (z0 : w0.heap.size ≤ q0) (z1 : w0.heap.size ≤ l0)
    (DC0 : Hid ((qc ≠ q0 ∧ lc ≠ q0) ∧ qc ≠ l0 ∧ lc ≠ l0))
    (HC : Hid (NatV w qc lc Z.N.n 32 c)) (H0 : Hid (NatV w q0 l0 0 32 0))
    {u1 u3 u4 u5 u6 u7 u8 u10 u12 u16 u17 u18 u19 u20 u21 u22 u23 u24 u25 u26 u27 u28 u29 u30 u31 u32 u33 u34 u35 u36 u37 u38 u39 u40 u41 u42 u43 u44 u45 u46 u47 u48 u49 u50 u51 u52 u53 u54 u55 u56 u57 u58 u59 u60 u61 u62 u63 u64 u65 u66 u67 u68 u69 u70 u71 u72 u73 u74 u75 u76 u77 u78 u79 u80 u81 u82 u83 u84 u85 u86 u87 u88 u89 u90 u91 u92 u93 u94 u95 u96 u97 u98 u99 u100 u101 u102 u103 u104 u105 u106 u107 u108 u109 u110 u111 u112 u113 u114 u115 u116 u117 u118 u119 u120 u121 u122 u123 u124 u125 u126 u127 u128 : Value}
    (h0 : ∀ a w, Code.wp Tryz.prog dRest (bodyPost Tryz.prog Tryz.f82 (decPost Z.N mb a0 c r w0)) a w → K0 a w)
    (h1 : ∀ a w, Code.wp Tryz.prog dTail10 (Exit.then K0 (bodyPost Tryz.prog Tryz.f82 (decPost Z.N mb a0 c r w0))) a w → K1 a w) :
    Code.wp Tryz.prog dReg10 (Exit.then K1 (Exit.then K0 (bodyPost Tryz.prog Tryz.f82 (decPost Z.N mb a0 c r w0)))) ⟨#[.pointer (some ⟨Z.pk, 0, none⟩), u1, .bool false, u3, u4, u5, u6, u7, u8, .pointer (some ⟨Z.N.m, 0, none⟩), u10, .pointer (some ⟨qc, 0, none⟩), u12, .pointer (some ⟨Z.P.m, 0, none⟩), .pointer (some ⟨Z.Q.m, 0, none⟩), .pointer (some ⟨q0, 0, none⟩), u16, u17, u18, u19, u20, u21, u22, u23, u24, u25, u26, u27, u28, u29, u30, u31, u32, u33, u34, u35, u36, u37, u38, u39, u40, u41, u42, u43, u44, u45, u46, u47, u48, u49, u50, u51, u52, u53, u54, u55, u56, u57, u58, u59, u60, u61, u62, u63, u64, u65, u66, u67, u68, u69, u70, u71, u72, u73, u74, u75, u76, u77, u78, u79, u80, u81, u82, u83, u84, u85, u86, u87, u88, u89, u90, u91, u92, u93, u94, u95, u96, u97, u98, u99, u100, u101, u102, u103, u104, u105, u106, u107, u108, u109, u110, u111, u112, u113, u114, u115, u116, u117, u118, u119, u120, u121, u122, u123, u124, u125, u126, u127, u128], []⟩ w := by
  conv => arg 2; whnf
  have hpo := HP.out.odd HKO.out.p3
  have hqo := HQ.out.odd HKO.out.q3
  have pn := HZ.out.P.n_le HZ.out.N HKO.out.pN
  have qn := HZ.out.Q.n_le HZ.out.N HKO.out.qN
  have n31 := HZ.out.N.n31
  have mP := HZ.out.mP; have mQ := HZ.out.mQ
  have pg := HZ.out.P.gt; have qg := HZ.out.Q.gt; have ng := HZ.out.N.gt
  have qN := HKO.out.qN
  have c5 := (HZ.out.kept HK.out).c5
  go_wp2_with fail
  refine wp_region_txt [2,0,0,0,2,0,0,0,0,0,2,0] (fun w' => w'.cell? ⟨Z.pk, 5, none⟩ = some (.slice (some Z.aP) Z.mP Z.cP)) (by kernel_rfl) (by kernel_rfl) c5 ?_
  simp only [withMarks]
  repeat (first
    | ((with_reducible refine txt_v (v := ?_) ?_ ?_); (any_goals ((with_reducible refine Yl.mk ?_ ?_); rfl; intro w hSw; (go_simp <;> (try go_bits) <;> (repeat (first | rw [if_pos (by omega)] | rw [if_neg (by omega)])) <;> with_reducible rfl))); try simp only [Act.put, List.setIfInBounds_toArray, List.set_cons_zero, List.set_cons_succ])
    | ((with_reducible refine txt_u ?_ ?_); rfl; try simp only [Act.put, List.setIfInBounds_toArray, List.set_cons_zero, List.set_cons_succ])
    | ((with_reducible refine txt_l (v := ?_) ?_ ?_); (any_goals ((with_reducible refine Reads.mk ?_ ?_); rfl; (go_simp <;> (try go_bits) <;> (repeat (first | rw [if_pos (by omega)] | rw [if_neg (by omega)])) <;> with_reducible rfl))); try simp only [Act.put, List.setIfInBounds_toArray, List.set_cons_zero, List.set_cons_succ])
    | ((with_reducible refine txt_e ?_ ?_); rfl; intro K hK; go_simp; (first | (refine hK _ _ (by first | exact (HZ.out.kept k6).c5 | exact (HZ.out.kept k5).c5 | exact (HZ.out.kept k4).c5 | exact c5) ?_) | ((first | (go_at_call 72; refine (ma_Exp q1 l1 0 0 q0 l0 32 (c % Z.P.v) Z.P (some Z.aP) Z.mP Z.cP Z.LP _ hM h0 (HZ.out.P.kept k5) hpo oe.out.2.2.1 oe.out.2.2.2.2 (HZ.out.dP.kept k5) (by omega)).mono ?_; rintro e w6 ⟨rfl, hM, h6⟩; have k6 := k5.two y0 y1 h6) | (go_at_call 70; refine (ma_Mod q0 l0 0 0 qc lc Z.N.n 32 c Z.P _ (H0.out.kept h4) (HC.out.kept h4) (HZ.out.P.kept k4) (HZ.out.P.old z1).2.2.1 DC0.out.2.2 (Ne.symm DC0.out.1.1) (Ne.symm (HZ.out.P.old z0).2.1) (by omega)).mono ?_; rintro e w5 ⟨rfl, h0, h5⟩; have k5 := k4.two z0 z1 h5; replace hM := hM.keeps h5 (ni2 (Ne.symm n3.out.1) (Ne.symm n3.out.2)) (ni2 (Ne.symm n4.out.1) (Ne.symm n4.out.2))) | (go_at_call 51; refine (newNat_any _).mono ?_; rintro e w4' ⟨q1, l1, rfl, hM, hq1, hl1, h4'⟩; have h4 := (Keeps.refl [] _).drew.trans1 h4'; have k4 := HK.out.trans1 h4; have y0 : w0.heap.size ≤ q1 := Nat.le_trans HK.out.size hq1; have y1 : w0.heap.size ≤ l1 := Nat.le_trans HK.out.size hl1; have n3 := Lib.hid (H0.out.old hq1); have n4 := Lib.hid (H0.out.old hl1); have n5 := Lib.hid (HC.out.old hq1); have n6 := Lib.hid (HC.out.old hl1); have oe := Lib.hid (HZ.out.P.old y1))); dsimp only; refine hK _ _ (by first | exact (HZ.out.kept k6).c5 | exact (HZ.out.kept k5).c5 | exact (HZ.out.kept k4).c5 | exact c5) ?_)); clear hK K; try simp only [Act.put, List.setIfInBounds_toArray, List.set_cons_zero, List.set_cons_succ]))
  refine txt_nil ?_
  obtain ⟨V1, hV1⟩ : ∃ V1, V1 = (c % Z.P.v) ^ bval Z.LP % Z.P.v := ⟨_, rfl⟩
  rw [← hV1] at hM
  have HV1 := Lib.hid hV1
  have ka := h0.keeps h6 (ni2 n3.out.1 n4.out.1) (ni2 n3.out.2 n4.out.2)
  have kb := (HC.out.kept h4).keeps h5 (ni2 DC0.out.1.1 DC0.out.2.1) (ni2 DC0.out.1.2 DC0.out.2.2)
  have kc := kb.keeps h6 (ni2 n5.out.1 n6.out.1) (ni2 n5.out.2 n6.out.2)
  have HCx := Lib.hid kc; have H0x := Lib.hid ka; have HMx := Lib.hid hM
  have HKx := Lib.hid k6
  clear hV1 ka kb kc h0 hM h4 h4' h5 h6 k4 k5 k6 oe c5 HC H0 HK
  go_wp2_with fail
  conv => arg 2; whnf
  go_upto_region 11 with fail
  rename_i kx hx
  exact dec11 Z w0 mb a0 c r qc lc q0 l0 HZ HF HKO HP HQ HR _ HKx z0 z1 V1 q1 l1 y0 y1 (Lib.hid ⟨n3.out, n4.out⟩) DC0 HCx H0x HMx HV1 h0 hx

end Go.Proofs.YtnfjmngchapdnaaGreatDoor
