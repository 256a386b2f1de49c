import Derived.Test.YtnfjmngchapdnaaGreatDoorMKeyN
import Derived.Test.YtnfjmngchapdnaaGreatDoorMPubOf
/- impl.keyOf: the key that an argument makes, by each way. -/
namespace Go.Proofs.YtnfjmngchapdnaaGreatDoor
open Go.RowKit

/-- A key as an argument. -/
structure KA where
  (E : Int) (a1 a2 a3 a4 a5 a6 a7 : Option Addr) (m1 c1 m2 c2 m3 c3 m4 c4 m5 c5 m6 c6 m7 c7 : Nat) (L1 L2 L3 L4 L5 L6 L7 : List Nat)
structure KA.is (k : KA) (w : World) : Prop where
  s1 : SlB w k.a1 k.m1 k.c1 k.L1
  s2 : SlB w k.a2 k.m2 k.c2 k.L2
  s3 : SlB w k.a3 k.m3 k.c3 k.L3
  s4 : SlB w k.a4 k.m4 k.c4 k.L4
  s5 : SlB w k.a5 k.m5 k.c5 k.L5
  s6 : SlB w k.a6 k.m6 k.c6 k.L6
  s7 : SlB w k.a7 k.m7 k.c7 k.L7
  E : -9223372036854775808 ≤ k.E ∧ k.E < 9223372036854775808
theorem KA.is.kept {k : KA} {w w' : World} (h : k.is w) (hk : Keeps [] w w') : k.is w' := ⟨h.s1.kept hk, h.s2.kept hk, h.s3.kept hk, h.s4.kept hk, h.s5.kept hk, h.s6.kept hk, h.s7.kept hk, h.E⟩
/-- All of its numbers are without noughts ahead, and not too long. -/
structure KA.tidy (k : KA) : Prop where
  t1 : Tidy k.L1
  t2 : Tidy k.L2
  t3 : Tidy k.L3
  t4 : Tidy k.L4
  t5 : Tidy k.L5
  t6 : Tidy k.L6
  t7 : Tidy k.L7
theorem bval_cons (x : Nat) (L : List Nat) : bval (x :: L) = x * 256 ^ L.length + bval L := by
  show List.foldl _ _ _ = _
  rw [List.foldl_cons, foldl_bval]; simp
theorem Tidy.fits {L : List Nat} {mb m : Nat} (h : Tidy L) (hl : L.length = mb) : Fits mb (bval L) m := by
  intro n hn hv
  rcases Nat.lt_or_ge (8 * n) mb with h1 | h1
  · exfalso
    rcases L with _ | ⟨x, L⟩
    · simp at hl; omega
    · have hx : x ≠ 0 := fun e => h.2 (by simp [e])
      rw [bval_cons] at hv
      have h2 : 256 ^ (8 * n) ≤ 256 ^ L.length := Nat.pow_le_pow_right (by omega) (by simp at hl; omega)
      have h3 : 1 * 256 ^ L.length ≤ x * 256 ^ L.length := Nat.mul_le_mul_right _ (by omega)
      rw [BB_256] at hn
      omega
  · exact h1
def KeyOfR (e : Ending) (w' : World) (ok : Prop) (N : Nat) (E : Int) (D P Q DP DQ QI : Nat) : Prop :=
  (ok ∧ ∃ Z : PK, e = .returned (.pointer (some ⟨Z.pk, 0, none⟩)) ∧ Z.is w' ∧ Z.has N E D P Q DP DQ QI) ∨ (¬ ok ∧ e = .returned (.pointer none))
def KeyOfB (e : Ending) (w' : World) (N : Nat) (E : Int) (D : Nat) : Prop :=
  (BareOk N D E ∧ ∃ Z : PB, e = .returned (.pointer (some ⟨Z.pk, 0, none⟩)) ∧ Z.is w' ∧ Z.N.v = N ∧ Z.E = E ∧ Z.D = D) ∨ (¬ BareOk N D E ∧ e = .returned (.pointer none))

theorem newPrivPrimes_ok (s1 s2 s3 s4 : Option Addr) (m1 c1 m2 c2 m3 c3 m4 c4 : Nat) (LN LD LP LQ : List Nat) (E : Int) (w : World)
    (h1 : SlB w s1 m1 c1 LN) (h2 : SlB w s2 m2 c2 LD) (h3 : SlB w s3 m3 c3 LP) (h4 : SlB w s4 m4 c4 LQ)
    (hm1 : m1 ≤ 240) (hm2 : m2 ≤ 240) (hm3 : m3 ≤ 240) (hm4 : m4 ≤ 240) (hf2 : Fits m2 (bval LD) (bval LN)) (hE : -9223372036854775808 ≤ E ∧ E < 9223372036854775808) (hok : PrimesOk (bval LN) E (bval LD) (bval LP) (bval LQ)) :
    Calls Tryz.prog 37 #[.slice s1 m1 c1, .int .i64 E, .slice s2 m2 c2, .slice s3 m3 c3, .slice s4 m4 c4] w fun e w' =>
      (∃ Z : PK, e = .returned (.tuple #[.pointer (some ⟨Z.pk, 0, none⟩), .nilIface]) ∧ Z.is w' ∧ Z.has (bval LN) E (bval LD) (bval LP) (bval LQ) (bval LD % (bval LP - 1)) (bval LD % (bval LQ - 1)) (bval LQ ^ (bval LP - 2) % bval LP)) ∧ Keeps [] w w' :=
  (newPrivPrimes s1 s2 s3 s4 m1 c1 m2 c2 m3 c3 m4 c4 LN LD LP LQ E w h1 h2 h3 h4 hm1 hm2 hm3 hm4 hf2 hE).mono (by
    rintro e w' ⟨⟨_, h⟩ | ⟨h, _⟩, hk⟩
    · exact ⟨h, hk⟩
    · exact absurd hok h)
theorem newPrivPrimes_no (s1 s2 s3 s4 : Option Addr) (m1 c1 m2 c2 m3 c3 m4 c4 : Nat) (LN LD LP LQ : List Nat) (E : Int) (w : World)
    (h1 : SlB w s1 m1 c1 LN) (h2 : SlB w s2 m2 c2 LD) (h3 : SlB w s3 m3 c3 LP) (h4 : SlB w s4 m4 c4 LQ)
    (hm1 : m1 ≤ 240) (hm2 : m2 ≤ 240) (hm3 : m3 ≤ 240) (hm4 : m4 ≤ 240) (hf2 : Fits m2 (bval LD) (bval LN)) (hE : -9223372036854775808 ≤ E ∧ E < 9223372036854775808) (hok : ¬ PrimesOk (bval LN) E (bval LD) (bval LP) (bval LQ)) :
    Calls Tryz.prog 37 #[.slice s1 m1 c1, .int .i64 E, .slice s2 m2 c2, .slice s3 m3 c3, .slice s4 m4 c4] w fun e w' =>
      (∃ t x, e = .returned (.tuple #[.pointer none, .iface t x])) ∧ Keeps [] w w' :=
  (newPrivPrimes s1 s2 s3 s4 m1 c1 m2 c2 m3 c3 m4 c4 LN LD LP LQ E w h1 h2 h3 h4 hm1 hm2 hm3 hm4 hf2 hE).mono (by
    rintro e w' ⟨⟨h, _⟩ | ⟨_, h⟩, hk⟩
    · exact absurd h hok
    · exact ⟨h, hk⟩)
theorem newPrivAll_ok (s1 s2 s3 s4 s6 s7 : Option Addr) (s5 : Addr) (m1 c1 m2 c2 m3 c3 m4 c4 m5 c5 m6 c6 m7 c7 : Nat) (LN LD LP LQ LX LY LI : List Nat) (E : Int) (w : World)
    (h1 : SlB w s1 m1 c1 LN) (h2 : SlB w s2 m2 c2 LD) (h3 : SlB w s3 m3 c3 LP) (h4 : SlB w s4 m4 c4 LQ) (h5 : SlB w (some s5) m5 c5 LX) (h6 : SlB w s6 m6 c6 LY) (h7 : SlB w s7 m7 c7 LI)
    (hm1 : m1 ≤ 240) (hm2 : m2 ≤ 240) (hm3 : m3 ≤ 240) (hm4 : m4 ≤ 240) (hm5 : m5 ≤ 240) (hm6 : m6 ≤ 240) (hm7 : m7 ≤ 240)
    (hf2 : Fits m2 (bval LD) (bval LN)) (hf5 : Fits m5 (bval LX) (bval LP - 1)) (hf6 : Fits m6 (bval LY) (bval LQ - 1)) (hf7 : Fits m7 (bval LI) (bval LP)) (hE : -9223372036854775808 ≤ E ∧ E < 9223372036854775808)
    (hok : KeyOk (bval LN) E (bval LD) (bval LP) (bval LQ) (bval LX) (bval LY) (bval LI)) :
    Calls Tryz.prog 38 #[.slice s1 m1 c1, .int .i64 E, .slice s2 m2 c2, .slice s3 m3 c3, .slice s4 m4 c4, .slice (some s5) m5 c5, .slice s6 m6 c6, .slice s7 m7 c7] w fun e w' =>
      (∃ Z : PK, e = .returned (.tuple #[.pointer (some ⟨Z.pk, 0, none⟩), .nilIface]) ∧ Z.is w' ∧ Z.has (bval LN) E (bval LD) (bval LP) (bval LQ) (bval LX) (bval LY) (bval LI)) ∧ Keeps [] w w' :=
  (newPrivAll s1 s2 s3 s4 s6 s7 s5 m1 c1 m2 c2 m3 c3 m4 c4 m5 c5 m6 c6 m7 c7 LN LD LP LQ LX LY LI E w h1 h2 h3 h4 h5 h6 h7 hm1 hm2 hm3 hm4 hm5 hm6 hm7 hf2 hf5 hf6 hf7 hE).mono (by
    rintro e w' ⟨⟨_, h⟩ | ⟨h, _⟩, hk⟩
    · exact ⟨h, hk⟩
    · exact absurd hok h)
theorem newPrivAll_no (s1 s2 s3 s4 s6 s7 : Option Addr) (s5 : Addr) (m1 c1 m2 c2 m3 c3 m4 c4 m5 c5 m6 c6 m7 c7 : Nat) (LN LD LP LQ LX LY LI : List Nat) (E : Int) (w : World)
    (h1 : SlB w s1 m1 c1 LN) (h2 : SlB w s2 m2 c2 LD) (h3 : SlB w s3 m3 c3 LP) (h4 : SlB w s4 m4 c4 LQ) (h5 : SlB w (some s5) m5 c5 LX) (h6 : SlB w s6 m6 c6 LY) (h7 : SlB w s7 m7 c7 LI)
    (hm1 : m1 ≤ 240) (hm2 : m2 ≤ 240) (hm3 : m3 ≤ 240) (hm4 : m4 ≤ 240) (hm5 : m5 ≤ 240) (hm6 : m6 ≤ 240) (hm7 : m7 ≤ 240)
    (hf2 : Fits m2 (bval LD) (bval LN)) (hf5 : Fits m5 (bval LX) (bval LP - 1)) (hf6 : Fits m6 (bval LY) (bval LQ - 1)) (hf7 : Fits m7 (bval LI) (bval LP)) (hE : -9223372036854775808 ≤ E ∧ E < 9223372036854775808)
    (hok : ¬ KeyOk (bval LN) E (bval LD) (bval LP) (bval LQ) (bval LX) (bval LY) (bval LI)) :
    Calls Tryz.prog 38 #[.slice s1 m1 c1, .int .i64 E, .slice s2 m2 c2, .slice s3 m3 c3, .slice s4 m4 c4, .slice (some s5) m5 c5, .slice s6 m6 c6, .slice s7 m7 c7] w fun e w' =>
      (∃ t x, e = .returned (.tuple #[.pointer none, .iface t x])) ∧ Keeps [] w w' :=
  (newPrivAll s1 s2 s3 s4 s6 s7 s5 m1 c1 m2 c2 m3 c3 m4 c4 m5 c5 m6 c6 m7 c7 LN LD LP LQ LX LY LI E w h1 h2 h3 h4 h5 h6 h7 hm1 hm2 hm3 hm4 hm5 hm6 hm7 hf2 hf5 hf6 hf7 hE).mono (by
    rintro e w' ⟨⟨h, _⟩ | ⟨_, h⟩, hk⟩
    · exact absurd h hok
    · exact ⟨h, hk⟩)
theorem newPrivBare_ok (s1 s2 : Option Addr) (m1 c1 m2 c2 : Nat) (LN LD : List Nat) (E : Int) (w : World) (h1 : SlB w s1 m1 c1 LN) (h2 : SlB w s2 m2 c2 LD) (hm1 : m1 ≤ 240) (hm2 : m2 ≤ 240) (hf : Fits m2 (bval LD) (bval LN)) (hE : -9223372036854775808 ≤ E ∧ E < 9223372036854775808) (hok : BareOk (bval LN) (bval LD) E) :
    Calls Tryz.prog 39 #[.slice s1 m1 c1, .int .i64 E, .slice s2 m2 c2] w fun e w' =>
      (∃ Z : PB, e = .returned (.tuple #[.pointer (some ⟨Z.pk, 0, none⟩), .nilIface]) ∧ Z.is w' ∧ (Z.N.v = bval LN ∧ Z.E = E ∧ Z.D = bval LD)) ∧ Keeps [] w w' :=
  (newPrivBare s1 s2 m1 c1 m2 c2 LN LD E w h1 h2 hm1 hm2 hf hE).mono (by
    rintro e w' ⟨⟨_, Z, h1, h2, h3, h4, h5, _⟩ | ⟨h, _⟩, hk⟩
    · exact ⟨⟨Z, h1, h2, h3, h4, h5⟩, hk⟩
    · exact absurd hok h)
theorem newPrivBare_no (s1 s2 : Option Addr) (m1 c1 m2 c2 : Nat) (LN LD : List Nat) (E : Int) (w : World) (h1 : SlB w s1 m1 c1 LN) (h2 : SlB w s2 m2 c2 LD) (hm1 : m1 ≤ 240) (hm2 : m2 ≤ 240) (hf : Fits m2 (bval LD) (bval LN)) (hE : -9223372036854775808 ≤ E ∧ E < 9223372036854775808) (hok : ¬ BareOk (bval LN) (bval LD) E) :
    Calls Tryz.prog 39 #[.slice s1 m1 c1, .int .i64 E, .slice s2 m2 c2] w fun e w' =>
      (∃ t x, e = .returned (.tuple #[.pointer none, .iface t x])) ∧ Keeps [] w w' :=
  (newPrivBare s1 s2 m1 c1 m2 c2 LN LD E w h1 h2 hm1 hm2 hf hE).mono (by
    rintro e w' ⟨⟨h, _⟩ | ⟨_, h⟩, hk⟩
    · exact absurd h hok
    · exact ⟨h, hk⟩)

set_option maxRecDepth 1000000 in
set_option maxHeartbeats 8000000 in
theorem keyOf_primes (k : KA) (w : World) (hk : k.is w) (ht : k.tidy) :
    Calls Tryz.prog 23 #[.agg #[.slice k.a1 k.m1 k.c1, .int .i64 k.E, .slice k.a2 k.m2 k.c2, .slice k.a3 k.m3 k.c3, .slice k.a4 k.m4 k.c4, .slice k.a5 k.m5 k.c5, .slice k.a6 k.m6 k.c6, .slice k.a7 k.m7 k.c7], .int .i64 0] w fun e w' => KeyOfR e w' (PrimesOk (bval k.L1) k.E (bval k.L2) (bval k.L3) (bval k.L4)) (bval k.L1) k.E (bval k.L2) (bval k.L3) (bval k.L4) (bval k.L2 % (bval k.L3 - 1)) (bval k.L2 % (bval k.L4 - 1)) (bval k.L4 ^ (bval k.L3 - 2) % bval k.L3) ∧ Keeps [] w w' := by
  have hb0 : (w.alloc (.cells #[.slice k.a1 k.m1 k.c1, .int .i64 k.E, .slice k.a2 k.m2 k.c2, .slice k.a3 k.m3 k.c3, .slice k.a4 k.m4 k.c4, .slice k.a5 k.m5 k.c5, .slice k.a6 k.m6 k.c6, .slice k.a7 k.m7 k.c7] 24)).heap[w.heap.size]? = some (.cells #[.slice k.a1 k.m1 k.c1, .int .i64 k.E, .slice k.a2 k.m2 k.c2, .slice k.a3 k.m3 k.c3, .slice k.a4 k.m4 k.c4, .slice k.a5 k.m5 k.c5, .slice k.a6 k.m6 k.c6, .slice k.a7 k.m7 k.c7] 24 (0, 0)) := alloc_blk _ _
  have hk0 : Keeps [] w (w.alloc (.cells #[.slice k.a1 k.m1 k.c1, .int .i64 k.E, .slice k.a2 k.m2 k.c2, .slice k.a3 k.m3 k.c3, .slice k.a4 k.m4 k.c4, .slice k.a5 k.m5 k.c5, .slice k.a6 k.m6 k.c6, .slice k.a7 k.m7 k.c7] 24)) := (Keeps.refl _ _).alloc _
  have HB := Lib.hid hb0
  have HK := Lib.hid hk0
  have HI := Lib.hid (hk.kept hk0)
  have HT := Lib.hid ht
  have S0 := key8 hb0
  have hE := hk.E
  have q1 := hk.s1.1; have r1 := ht.t1.1; have q2 := hk.s2.1; have r2 := ht.t2.1; have q3 := hk.s3.1; have r3 := ht.t3.1; have q4 := hk.s4.1; have r4 := ht.t4.1
  clear hb0 hk0 hk ht
  go_enter Tryz.func23, Tryz.ntmps23
  by_cases hok : PrimesOk (bval k.L1) k.E (bval k.L2) (bval k.L3) (bval k.L4)
  · go_wp2_with fail
    refine wp_region_txt [0,0,1,2,0,0,0,0,0,2,0,0,0,2,0,0,0,2,2,0,0,0,0,0] (fun w' => w'.cell? ⟨w.heap.size, 0, none⟩ = some (.slice k.a1 k.m1 k.c1) ∧ w'.cell? ⟨w.heap.size, 1, none⟩ = some (.int .i64 k.E) ∧ w'.cell? ⟨w.heap.size, 2, none⟩ = some (.slice k.a2 k.m2 k.c2) ∧ w'.cell? ⟨w.heap.size, 3, none⟩ = some (.slice k.a3 k.m3 k.c3) ∧ w'.cell? ⟨w.heap.size, 4, none⟩ = some (.slice k.a4 k.m4 k.c4) ∧ w'.cell? ⟨w.heap.size, 5, none⟩ = some (.slice k.a5 k.m5 k.c5) ∧ w'.cell? ⟨w.heap.size, 6, none⟩ = some (.slice k.a6 k.m6 k.c6) ∧ w'.cell? ⟨w.heap.size, 7, none⟩ = some (.slice k.a7 k.m7 k.c7)) (by kernel_rfl) (by kernel_rfl) S0 ?_
    obtain ⟨k0, k1, k2, k3, k4, k5, k6, k7⟩ := S0
    simp only [withMarks]
    repeat (first
      | ((with_reducible refine txt_v (v := ?_) ?_ ?_); (any_goals ((with_reducible refine Yl.mk ?_ ?_); rfl; intro w hSw; (go_simp <;> (try go_bits) <;> (repeat (first | rw [if_pos (by omega)] | rw [if_neg (by omega)])) <;> with_reducible rfl))); try simp only [Act.put, List.setIfInBounds_toArray, List.set_cons_zero, List.set_cons_succ])
      | ((with_reducible refine txt_u ?_ ?_); rfl; try simp only [Act.put, List.setIfInBounds_toArray, List.set_cons_zero, List.set_cons_succ])
      | ((with_reducible refine txt_l (v := ?_) ?_ ?_); (any_goals ((with_reducible refine Reads.mk ?_ ?_); rfl; (go_simp <;> (try go_bits) <;> (repeat (first | rw [if_pos (by omega)] | rw [if_neg (by omega)])) <;> with_reducible rfl))); try simp only [Act.put, List.setIfInBounds_toArray, List.set_cons_zero, List.set_cons_succ])
      | ((with_reducible refine txt_e ?_ ?_); rfl; intro K hK; go_simp; (first | (refine hK _ _ (by first | exact key8 (blk_keeps HB.out ((((((Keeps.refl [] _).drew.trans1 h1).trans1 h2).trans1 h3).trans1 h4).trans1 h5) (by simp)) | exact key8 (blk_keeps HB.out (((((Keeps.refl [] _).drew.trans1 h1).trans1 h2).trans1 h3).trans1 h4) (by simp)) | exact key8 (blk_keeps HB.out ((((Keeps.refl [] _).drew.trans1 h1).trans1 h2).trans1 h3) (by simp)) | exact key8 (blk_keeps HB.out (((Keeps.refl [] _).drew.trans1 h1).trans1 h2) (by simp)) | exact key8 (blk_keeps HB.out ((Keeps.refl [] _).drew.trans1 h1) (by simp)) | exact ⟨k0, k1, k2, k3, k4, k5, k6, k7⟩) ?_) | ((first | (go_at_call 37; refine (newPrivPrimes_ok b1 b2 b3 b4 _ _ _ _ _ _ _ _ k.L1 k.L2 k.L3 k.L4 k.E _ (((hO1.kept h2).kept h3).kept h4) ((hO2.kept h3).kept h4) (hO3.kept h4) hO4 (by omega) (by omega) (by omega) (by omega) (HT.out.t2.fits q2) hE hok).mono ?_; rintro e5 w5 ⟨⟨Z, rfl, hI, hh⟩, h5⟩) | (go_at_call 25; (with_reducible refine Calls.mono (clone2 k.a4 k.m4 k.c4 k.L4 _ (HI.out.s4.kept ((((Keeps.refl [] _).drew.trans1 h1).trans1 h2).trans1 h3)) (by omega)) ?_); rintro e4 w4 ⟨⟨b4, g4, rfl, hO4, hn4⟩, h4⟩) | (go_at_call 25; (with_reducible refine Calls.mono (clone2 k.a3 k.m3 k.c3 k.L3 _ (HI.out.s3.kept (((Keeps.refl [] _).drew.trans1 h1).trans1 h2)) (by omega)) ?_); rintro e3 w3 ⟨⟨b3, g3, rfl, hO3, hn3⟩, h3⟩) | (go_at_call 25; (with_reducible refine Calls.mono (clone2 k.a2 k.m2 k.c2 k.L2 _ (HI.out.s2.kept ((Keeps.refl [] _).drew.trans1 h1)) (by omega)) ?_); rintro e2 w2 ⟨⟨b2, g2, rfl, hO2, hn2⟩, h2⟩) | (go_at_call 25; (with_reducible refine Calls.mono (clone2 k.a1 k.m1 k.c1 k.L1 _ (HI.out.s1.kept (Keeps.refl [] _).drew) (by omega)) ?_); rintro e1 w1 ⟨⟨b1, g1, rfl, hO1, hn1⟩, h1⟩)); dsimp only; refine hK _ _ (by first | exact key8 (blk_keeps HB.out ((((((Keeps.refl [] _).drew.trans1 h1).trans1 h2).trans1 h3).trans1 h4).trans1 h5) (by simp)) | exact key8 (blk_keeps HB.out (((((Keeps.refl [] _).drew.trans1 h1).trans1 h2).trans1 h3).trans1 h4) (by simp)) | exact key8 (blk_keeps HB.out ((((Keeps.refl [] _).drew.trans1 h1).trans1 h2).trans1 h3) (by simp)) | exact key8 (blk_keeps HB.out (((Keeps.refl [] _).drew.trans1 h1).trans1 h2) (by simp)) | exact key8 (blk_keeps HB.out ((Keeps.refl [] _).drew.trans1 h1) (by simp)) | exact ⟨k0, k1, k2, k3, k4, k5, k6, k7⟩) ?_)); clear hK K; try simp only [Act.put, List.setIfInBounds_toArray, List.set_cons_zero, List.set_cons_succ]))
    refine txt_nil ?_
    have hs := HK.out.trans1 ((((((Keeps.refl [] _).drew.trans1 h1).trans1 h2).trans1 h3).trans1 h4).trans1 h5)
    have HS := Lib.hid hs
    have HZ := Lib.hid hI; have HH := Lib.hid hh
    clear k0 k1 k2 k3 k4 k5 k6 k7 h1 h2 h3 h4 h5 hs hI hh hO1 hn1 hO2 hn2 hO3 hn3 hO4 hn4
    go_wp2
    go_ret
    exact ⟨.inl ⟨hok, Z, rfl, HZ.out, HH.out⟩, HS.out⟩
  · go_wp2_with fail
    refine wp_region_txt [0,0,1,2,0,0,0,0,0,2,0,0,0,2,0,0,0,2,2,0,0,0,0,0] (fun w' => w'.cell? ⟨w.heap.size, 0, none⟩ = some (.slice k.a1 k.m1 k.c1) ∧ w'.cell? ⟨w.heap.size, 1, none⟩ = some (.int .i64 k.E) ∧ w'.cell? ⟨w.heap.size, 2, none⟩ = some (.slice k.a2 k.m2 k.c2) ∧ w'.cell? ⟨w.heap.size, 3, none⟩ = some (.slice k.a3 k.m3 k.c3) ∧ w'.cell? ⟨w.heap.size, 4, none⟩ = some (.slice k.a4 k.m4 k.c4) ∧ w'.cell? ⟨w.heap.size, 5, none⟩ = some (.slice k.a5 k.m5 k.c5) ∧ w'.cell? ⟨w.heap.size, 6, none⟩ = some (.slice k.a6 k.m6 k.c6) ∧ w'.cell? ⟨w.heap.size, 7, none⟩ = some (.slice k.a7 k.m7 k.c7)) (by kernel_rfl) (by kernel_rfl) S0 ?_
    obtain ⟨k0, k1, k2, k3, k4, k5, k6, k7⟩ := S0
    simp only [withMarks]
    repeat (first
      | ((with_reducible refine txt_v (v := ?_) ?_ ?_); (any_goals ((with_reducible refine Yl.mk ?_ ?_); rfl; intro w hSw; (go_simp <;> (try go_bits) <;> (repeat (first | rw [if_pos (by omega)] | rw [if_neg (by omega)])) <;> with_reducible rfl))); try simp only [Act.put, List.setIfInBounds_toArray, List.set_cons_zero, List.set_cons_succ])
      | ((with_reducible refine txt_u ?_ ?_); rfl; try simp only [Act.put, List.setIfInBounds_toArray, List.set_cons_zero, List.set_cons_succ])
      | ((with_reducible refine txt_l (v := ?_) ?_ ?_); (any_goals ((with_reducible refine Reads.mk ?_ ?_); rfl; (go_simp <;> (try go_bits) <;> (repeat (first | rw [if_pos (by omega)] | rw [if_neg (by omega)])) <;> with_reducible rfl))); try simp only [Act.put, List.setIfInBounds_toArray, List.set_cons_zero, List.set_cons_succ])
      | ((with_reducible refine txt_e ?_ ?_); rfl; intro K hK; go_simp; (first | (refine hK _ _ (by first | exact key8 (blk_keeps HB.out ((((((Keeps.refl [] _).drew.trans1 h1).trans1 h2).trans1 h3).trans1 h4).trans1 h5) (by simp)) | exact key8 (blk_keeps HB.out (((((Keeps.refl [] _).drew.trans1 h1).trans1 h2).trans1 h3).trans1 h4) (by simp)) | exact key8 (blk_keeps HB.out ((((Keeps.refl [] _).drew.trans1 h1).trans1 h2).trans1 h3) (by simp)) | exact key8 (blk_keeps HB.out (((Keeps.refl [] _).drew.trans1 h1).trans1 h2) (by simp)) | exact key8 (blk_keeps HB.out ((Keeps.refl [] _).drew.trans1 h1) (by simp)) | exact ⟨k0, k1, k2, k3, k4, k5, k6, k7⟩) ?_) | ((first | (go_at_call 37; refine (newPrivPrimes_no b1 b2 b3 b4 _ _ _ _ _ _ _ _ k.L1 k.L2 k.L3 k.L4 k.E _ (((hO1.kept h2).kept h3).kept h4) ((hO2.kept h3).kept h4) (hO3.kept h4) hO4 (by omega) (by omega) (by omega) (by omega) (HT.out.t2.fits q2) hE hok).mono ?_; rintro e5 w5 ⟨⟨t, x, rfl⟩, h5⟩) | (go_at_call 25; (with_reducible refine Calls.mono (clone2 k.a4 k.m4 k.c4 k.L4 _ (HI.out.s4.kept ((((Keeps.refl [] _).drew.trans1 h1).trans1 h2).trans1 h3)) (by omega)) ?_); rintro e4 w4 ⟨⟨b4, g4, rfl, hO4, hn4⟩, h4⟩) | (go_at_call 25; (with_reducible refine Calls.mono (clone2 k.a3 k.m3 k.c3 k.L3 _ (HI.out.s3.kept (((Keeps.refl [] _).drew.trans1 h1).trans1 h2)) (by omega)) ?_); rintro e3 w3 ⟨⟨b3, g3, rfl, hO3, hn3⟩, h3⟩) | (go_at_call 25; (with_reducible refine Calls.mono (clone2 k.a2 k.m2 k.c2 k.L2 _ (HI.out.s2.kept ((Keeps.refl [] _).drew.trans1 h1)) (by omega)) ?_); rintro e2 w2 ⟨⟨b2, g2, rfl, hO2, hn2⟩, h2⟩) | (go_at_call 25; (with_reducible refine Calls.mono (clone2 k.a1 k.m1 k.c1 k.L1 _ (HI.out.s1.kept (Keeps.refl [] _).drew) (by omega)) ?_); rintro e1 w1 ⟨⟨b1, g1, rfl, hO1, hn1⟩, h1⟩)); dsimp only; refine hK _ _ (by first | exact key8 (blk_keeps HB.out ((((((Keeps.refl [] _).drew.trans1 h1).trans1 h2).trans1 h3).trans1 h4).trans1 h5) (by simp)) | exact key8 (blk_keeps HB.out (((((Keeps.refl [] _).drew.trans1 h1).trans1 h2).trans1 h3).trans1 h4) (by simp)) | exact key8 (blk_keeps HB.out ((((Keeps.refl [] _).drew.trans1 h1).trans1 h2).trans1 h3) (by simp)) | exact key8 (blk_keeps HB.out (((Keeps.refl [] _).drew.trans1 h1).trans1 h2) (by simp)) | exact key8 (blk_keeps HB.out ((Keeps.refl [] _).drew.trans1 h1) (by simp)) | exact ⟨k0, k1, k2, k3, k4, k5, k6, k7⟩) ?_)); clear hK K; try simp only [Act.put, List.setIfInBounds_toArray, List.set_cons_zero, List.set_cons_succ]))
    refine txt_nil ?_
    have hs := HK.out.trans1 ((((((Keeps.refl [] _).drew.trans1 h1).trans1 h2).trans1 h3).trans1 h4).trans1 h5)
    have HS := Lib.hid hs
    clear k0 k1 k2 k3 k4 k5 k6 k7 h1 h2 h3 h4 h5 hs hO1 hn1 hO2 hn2 hO3 hn3 hO4 hn4
    go_wp2
    go_ret
    exact ⟨.inr ⟨hok, rfl⟩, HS.out⟩

set_option maxRecDepth 1000000 in
set_option maxHeartbeats 8000000 in
theorem keyOf_all (k : KA) (w : World) (hk : k.is w) (ht : k.tidy) (hnil : k.a5 ≠ none) :
    Calls Tryz.prog 23 #[.agg #[.slice k.a1 k.m1 k.c1, .int .i64 k.E, .slice k.a2 k.m2 k.c2, .slice k.a3 k.m3 k.c3, .slice k.a4 k.m4 k.c4, .slice k.a5 k.m5 k.c5, .slice k.a6 k.m6 k.c6, .slice k.a7 k.m7 k.c7], .int .i64 1] w fun e w' => KeyOfR e w' (KeyOk (bval k.L1) k.E (bval k.L2) (bval k.L3) (bval k.L4) (bval k.L5) (bval k.L6) (bval k.L7)) (bval k.L1) k.E (bval k.L2) (bval k.L3) (bval k.L4) (bval k.L5) (bval k.L6) (bval k.L7) ∧ Keeps [] w w' := by
  have hb0 : (w.alloc (.cells #[.slice k.a1 k.m1 k.c1, .int .i64 k.E, .slice k.a2 k.m2 k.c2, .slice k.a3 k.m3 k.c3, .slice k.a4 k.m4 k.c4, .slice k.a5 k.m5 k.c5, .slice k.a6 k.m6 k.c6, .slice k.a7 k.m7 k.c7] 24)).heap[w.heap.size]? = some (.cells #[.slice k.a1 k.m1 k.c1, .int .i64 k.E, .slice k.a2 k.m2 k.c2, .slice k.a3 k.m3 k.c3, .slice k.a4 k.m4 k.c4, .slice k.a5 k.m5 k.c5, .slice k.a6 k.m6 k.c6, .slice k.a7 k.m7 k.c7] 24 (0, 0)) := alloc_blk _ _
  have hk0 : Keeps [] w (w.alloc (.cells #[.slice k.a1 k.m1 k.c1, .int .i64 k.E, .slice k.a2 k.m2 k.c2, .slice k.a3 k.m3 k.c3, .slice k.a4 k.m4 k.c4, .slice k.a5 k.m5 k.c5, .slice k.a6 k.m6 k.c6, .slice k.a7 k.m7 k.c7] 24)) := (Keeps.refl _ _).alloc _
  have HB := Lib.hid hb0
  have HK := Lib.hid hk0
  have HI := Lib.hid (hk.kept hk0)
  have HT := Lib.hid ht
  have S0 := key8 hb0
  have hE := hk.E
  have q1 := hk.s1.1; have r1 := ht.t1.1; have q2 := hk.s2.1; have r2 := ht.t2.1; have q3 := hk.s3.1; have r3 := ht.t3.1; have q4 := hk.s4.1; have r4 := ht.t4.1; have q5 := hk.s5.1; have r5 := ht.t5.1; have q6 := hk.s6.1; have r6 := ht.t6.1; have q7 := hk.s7.1; have r7 := ht.t7.1
  clear hb0 hk0 hk ht
  go_enter Tryz.func23, Tryz.ntmps23
  by_cases hok : KeyOk (bval k.L1) k.E (bval k.L2) (bval k.L3) (bval k.L4) (bval k.L5) (bval k.L6) (bval k.L7)
  · go_wp2_with fail
    refine wp_region_txt [0,0,1,2,0,0,0,0,0,2,0,0,0,2,0,0,0,2,0,0,0,2,0,0,0,2,0,0,0,2,2,0,0,0,0,0] (fun w' => w'.cell? ⟨w.heap.size, 0, none⟩ = some (.slice k.a1 k.m1 k.c1) ∧ w'.cell? ⟨w.heap.size, 1, none⟩ = some (.int .i64 k.E) ∧ w'.cell? ⟨w.heap.size, 2, none⟩ = some (.slice k.a2 k.m2 k.c2) ∧ w'.cell? ⟨w.heap.size, 3, none⟩ = some (.slice k.a3 k.m3 k.c3) ∧ w'.cell? ⟨w.heap.size, 4, none⟩ = some (.slice k.a4 k.m4 k.c4) ∧ w'.cell? ⟨w.heap.size, 5, none⟩ = some (.slice k.a5 k.m5 k.c5) ∧ w'.cell? ⟨w.heap.size, 6, none⟩ = some (.slice k.a6 k.m6 k.c6) ∧ w'.cell? ⟨w.heap.size, 7, none⟩ = some (.slice k.a7 k.m7 k.c7)) (by kernel_rfl) (by kernel_rfl) S0 ?_
    obtain ⟨k0, k1, k2, k3, k4, k5, k6, k7⟩ := S0
    simp only [withMarks]
    repeat (first
      | ((with_reducible refine txt_v (v := ?_) ?_ ?_); (any_goals ((with_reducible refine Yl.mk ?_ ?_); rfl; intro w hSw; (go_simp <;> (try go_bits) <;> (repeat (first | rw [if_pos (by omega)] | rw [if_neg (by omega)])) <;> with_reducible rfl))); try simp only [Act.put, List.setIfInBounds_toArray, List.set_cons_zero, List.set_cons_succ])
      | ((with_reducible refine txt_u ?_ ?_); rfl; try simp only [Act.put, List.setIfInBounds_toArray, List.set_cons_zero, List.set_cons_succ])
      | ((with_reducible refine txt_l (v := ?_) ?_ ?_); (any_goals ((with_reducible refine Reads.mk ?_ ?_); rfl; (go_simp <;> (try go_bits) <;> (repeat (first | rw [if_pos (by omega)] | rw [if_neg (by omega)])) <;> with_reducible rfl))); try simp only [Act.put, List.setIfInBounds_toArray, List.set_cons_zero, List.set_cons_succ])
      | ((with_reducible refine txt_e ?_ ?_); rfl; intro K hK; go_simp; (first | (refine hK _ _ (by first | exact key8 (blk_keeps HB.out (((((((((Keeps.refl [] _).drew.trans1 h1).trans1 h2).trans1 h3).trans1 h4).trans1 h5).trans1 h6).trans1 h7).trans1 h8) (by simp)) | exact key8 (blk_keeps HB.out ((((((((Keeps.refl [] _).drew.trans1 h1).trans1 h2).trans1 h3).trans1 h4).trans1 h5).trans1 h6).trans1 h7) (by simp)) | exact key8 (blk_keeps HB.out (((((((Keeps.refl [] _).drew.trans1 h1).trans1 h2).trans1 h3).trans1 h4).trans1 h5).trans1 h6) (by simp)) | exact key8 (blk_keeps HB.out ((((((Keeps.refl [] _).drew.trans1 h1).trans1 h2).trans1 h3).trans1 h4).trans1 h5) (by simp)) | exact key8 (blk_keeps HB.out (((((Keeps.refl [] _).drew.trans1 h1).trans1 h2).trans1 h3).trans1 h4) (by simp)) | exact key8 (blk_keeps HB.out ((((Keeps.refl [] _).drew.trans1 h1).trans1 h2).trans1 h3) (by simp)) | exact key8 (blk_keeps HB.out (((Keeps.refl [] _).drew.trans1 h1).trans1 h2) (by simp)) | exact key8 (blk_keeps HB.out ((Keeps.refl [] _).drew.trans1 h1) (by simp)) | exact ⟨k0, k1, k2, k3, k4, k5, k6, k7⟩) ?_) | ((first | (go_at_call 38; refine (newPrivAll_ok b1 b2 b3 b4 b6 b7 b5 _ _ _ _ _ _ _ _ _ _ _ _ _ _ k.L1 k.L2 k.L3 k.L4 k.L5 k.L6 k.L7 k.E _ ((((((hO1.kept h2).kept h3).kept h4).kept h5).kept h6).kept h7) (((((hO2.kept h3).kept h4).kept h5).kept h6).kept h7) ((((hO3.kept h4).kept h5).kept h6).kept h7) (((hO4.kept h5).kept h6).kept h7) ((hO5.kept h6).kept h7) (hO6.kept h7) hO7 (by omega) (by omega) (by omega) (by omega) (by omega) (by omega) (by omega) (HT.out.t2.fits q2) (HT.out.t5.fits q5) (HT.out.t6.fits q6) (HT.out.t7.fits q7) hE hok).mono ?_; rintro e8 w8 ⟨⟨Z, rfl, hI, hh⟩, h8⟩) | (go_at_call 25; (with_reducible refine Calls.mono (clone2 k.a7 k.m7 k.c7 k.L7 _ (HI.out.s7.kept (((((((Keeps.refl [] _).drew.trans1 h1).trans1 h2).trans1 h3).trans1 h4).trans1 h5).trans1 h6)) (by omega)) ?_); rintro e7 w7 ⟨⟨b7, g7, rfl, hO7, hn7⟩, h7⟩) | (go_at_call 25; (with_reducible refine Calls.mono (clone2 k.a6 k.m6 k.c6 k.L6 _ (HI.out.s6.kept ((((((Keeps.refl [] _).drew.trans1 h1).trans1 h2).trans1 h3).trans1 h4).trans1 h5)) (by omega)) ?_); rintro e6 w6 ⟨⟨b6, g6, rfl, hO6, hn6⟩, h6⟩) | (go_at_call 25; (with_reducible refine Calls.mono (clone2 k.a5 k.m5 k.c5 k.L5 _ (HI.out.s5.kept (((((Keeps.refl [] _).drew.trans1 h1).trans1 h2).trans1 h3).trans1 h4)) (by omega)) ?_); rintro e5 w5 ⟨⟨b5', g5, rfl, hO5, hn5⟩, h5⟩; obtain ⟨b5, rfl⟩ : ∃ b5, b5' = some b5 := Option.ne_none_iff_exists'.1 (fun h => hnil (hn5.1 h))) | (go_at_call 25; (with_reducible refine Calls.mono (clone2 k.a4 k.m4 k.c4 k.L4 _ (HI.out.s4.kept ((((Keeps.refl [] _).drew.trans1 h1).trans1 h2).trans1 h3)) (by omega)) ?_); rintro e4 w4 ⟨⟨b4, g4, rfl, hO4, hn4⟩, h4⟩) | (go_at_call 25; (with_reducible refine Calls.mono (clone2 k.a3 k.m3 k.c3 k.L3 _ (HI.out.s3.kept (((Keeps.refl [] _).drew.trans1 h1).trans1 h2)) (by omega)) ?_); rintro e3 w3 ⟨⟨b3, g3, rfl, hO3, hn3⟩, h3⟩) | (go_at_call 25; (with_reducible refine Calls.mono (clone2 k.a2 k.m2 k.c2 k.L2 _ (HI.out.s2.kept ((Keeps.refl [] _).drew.trans1 h1)) (by omega)) ?_); rintro e2 w2 ⟨⟨b2, g2, rfl, hO2, hn2⟩, h2⟩) | (go_at_call 25; (with_reducible refine Calls.mono (clone2 k.a1 k.m1 k.c1 k.L1 _ (HI.out.s1.kept (Keeps.refl [] _).drew) (by omega)) ?_); rintro e1 w1 ⟨⟨b1, g1, rfl, hO1, hn1⟩, h1⟩)); dsimp only; refine hK _ _ (by first | exact key8 (blk_keeps HB.out (((((((((Keeps.refl [] _).drew.trans1 h1).trans1 h2).trans1 h3).trans1 h4).trans1 h5).trans1 h6).trans1 h7).trans1 h8) (by simp)) | exact key8 (blk_keeps HB.out ((((((((Keeps.refl [] _).drew.trans1 h1).trans1 h2).trans1 h3).trans1 h4).trans1 h5).trans1 h6).trans1 h7) (by simp)) | exact key8 (blk_keeps HB.out (((((((Keeps.refl [] _).drew.trans1 h1).trans1 h2).trans1 h3).trans1 h4).trans1 h5).trans1 h6) (by simp)) | exact key8 (blk_keeps HB.out ((((((Keeps.refl [] _).drew.trans1 h1).trans1 h2).trans1 h3).trans1 h4).trans1 h5) (by simp)) | exact key8 (blk_keeps HB.out (((((Keeps.refl [] _).drew.trans1 h1).trans1 h2).trans1 h3).trans1 h4) (by simp)) | exact key8 (blk_keeps HB.out ((((Keeps.refl [] _).drew.trans1 h1).trans1 h2).trans1 h3) (by simp)) | exact key8 (blk_keeps HB.out (((Keeps.refl [] _).drew.trans1 h1).trans1 h2) (by simp)) | exact key8 (blk_keeps HB.out ((Keeps.refl [] _).drew.trans1 h1) (by simp)) | exact ⟨k0, k1, k2, k3, k4, k5, k6, k7⟩) ?_)); clear hK K; try simp only [Act.put, List.setIfInBounds_toArray, List.set_cons_zero, List.set_cons_succ]))
    refine txt_nil ?_
    have hs := HK.out.trans1 (((((((((Keeps.refl [] _).drew.trans1 h1).trans1 h2).trans1 h3).trans1 h4).trans1 h5).trans1 h6).trans1 h7).trans1 h8)
    have HS := Lib.hid hs
    have HZ := Lib.hid hI; have HH := Lib.hid hh
    clear k0 k1 k2 k3 k4 k5 k6 k7 h1 h2 h3 h4 h5 h6 h7 h8 hs hI hh hO1 hn1 hO2 hn2 hO3 hn3 hO4 hn4 hO5 hn5 hO6 hn6 hO7 hn7
    go_wp2
    go_ret
    exact ⟨.inl ⟨hok, Z, rfl, HZ.out, HH.out⟩, HS.out⟩
  · go_wp2_with fail
    refine wp_region_txt [0,0,1,2,0,0,0,0,0,2,0,0,0,2,0,0,0,2,0,0,0,2,0,0,0,2,0,0,0,2,2,0,0,0,0,0] (fun w' => w'.cell? ⟨w.heap.size, 0, none⟩ = some (.slice k.a1 k.m1 k.c1) ∧ w'.cell? ⟨w.heap.size, 1, none⟩ = some (.int .i64 k.E) ∧ w'.cell? ⟨w.heap.size, 2, none⟩ = some (.slice k.a2 k.m2 k.c2) ∧ w'.cell? ⟨w.heap.size, 3, none⟩ = some (.slice k.a3 k.m3 k.c3) ∧ w'.cell? ⟨w.heap.size, 4, none⟩ = some (.slice k.a4 k.m4 k.c4) ∧ w'.cell? ⟨w.heap.size, 5, none⟩ = some (.slice k.a5 k.m5 k.c5) ∧ w'.cell? ⟨w.heap.size, 6, none⟩ = some (.slice k.a6 k.m6 k.c6) ∧ w'.cell? ⟨w.heap.size, 7, none⟩ = some (.slice k.a7 k.m7 k.c7)) (by kernel_rfl) (by kernel_rfl) S0 ?_
    obtain ⟨k0, k1, k2, k3, k4, k5, k6, k7⟩ := S0
    simp only [withMarks]
    repeat (first
      | ((with_reducible refine txt_v (v := ?_) ?_ ?_); (any_goals ((with_reducible refine Yl.mk ?_ ?_); rfl; intro w hSw; (go_simp <;> (try go_bits) <;> (repeat (first | rw [if_pos (by omega)] | rw [if_neg (by omega)])) <;> with_reducible rfl))); try simp only [Act.put, List.setIfInBounds_toArray, List.set_cons_zero, List.set_cons_succ])
      | ((with_reducible refine txt_u ?_ ?_); rfl; try simp only [Act.put, List.setIfInBounds_toArray, List.set_cons_zero, List.set_cons_succ])
      | ((with_reducible refine txt_l (v := ?_) ?_ ?_); (any_goals ((with_reducible refine Reads.mk ?_ ?_); rfl; (go_simp <;> (try go_bits) <;> (repeat (first | rw [if_pos (by omega)] | rw [if_neg (by omega)])) <;> with_reducible rfl))); try simp only [Act.put, List.setIfInBounds_toArray, List.set_cons_zero, List.set_cons_succ])
      | ((with_reducible refine txt_e ?_ ?_); rfl; intro K hK; go_simp; (first | (refine hK _ _ (by first | exact key8 (blk_keeps HB.out (((((((((Keeps.refl [] _).drew.trans1 h1).trans1 h2).trans1 h3).trans1 h4).trans1 h5).trans1 h6).trans1 h7).trans1 h8) (by simp)) | exact key8 (blk_keeps HB.out ((((((((Keeps.refl [] _).drew.trans1 h1).trans1 h2).trans1 h3).trans1 h4).trans1 h5).trans1 h6).trans1 h7) (by simp)) | exact key8 (blk_keeps HB.out (((((((Keeps.refl [] _).drew.trans1 h1).trans1 h2).trans1 h3).trans1 h4).trans1 h5).trans1 h6) (by simp)) | exact key8 (blk_keeps HB.out ((((((Keeps.refl [] _).drew.trans1 h1).trans1 h2).trans1 h3).trans1 h4).trans1 h5) (by simp)) | exact key8 (blk_keeps HB.out (((((Keeps.refl [] _).drew.trans1 h1).trans1 h2).trans1 h3).trans1 h4) (by simp)) | exact key8 (blk_keeps HB.out ((((Keeps.refl [] _).drew.trans1 h1).trans1 h2).trans1 h3) (by simp)) | exact key8 (blk_keeps HB.out (((Keeps.refl [] _).drew.trans1 h1).trans1 h2) (by simp)) | exact key8 (blk_keeps HB.out ((Keeps.refl [] _).drew.trans1 h1) (by simp)) | exact ⟨k0, k1, k2, k3, k4, k5, k6, k7⟩) ?_) | ((first | (go_at_call 38; refine (newPrivAll_no b1 b2 b3 b4 b6 b7 b5 _ _ _ _ _ _ _ _ _ _ _ _ _ _ k.L1 k.L2 k.L3 k.L4 k.L5 k.L6 k.L7 k.E _ ((((((hO1.kept h2).kept h3).kept h4).kept h5).kept h6).kept h7) (((((hO2.kept h3).kept h4).kept h5).kept h6).kept h7) ((((hO3.kept h4).kept h5).kept h6).kept h7) (((hO4.kept h5).kept h6).kept h7) ((hO5.kept h6).kept h7) (hO6.kept h7) hO7 (by omega) (by omega) (by omega) (by omega) (by omega) (by omega) (by omega) (HT.out.t2.fits q2) (HT.out.t5.fits q5) (HT.out.t6.fits q6) (HT.out.t7.fits q7) hE hok).mono ?_; rintro e8 w8 ⟨⟨t, x, rfl⟩, h8⟩) | (go_at_call 25; (with_reducible refine Calls.mono (clone2 k.a7 k.m7 k.c7 k.L7 _ (HI.out.s7.kept (((((((Keeps.refl [] _).drew.trans1 h1).trans1 h2).trans1 h3).trans1 h4).trans1 h5).trans1 h6)) (by omega)) ?_); rintro e7 w7 ⟨⟨b7, g7, rfl, hO7, hn7⟩, h7⟩) | (go_at_call 25; (with_reducible refine Calls.mono (clone2 k.a6 k.m6 k.c6 k.L6 _ (HI.out.s6.kept ((((((Keeps.refl [] _).drew.trans1 h1).trans1 h2).trans1 h3).trans1 h4).trans1 h5)) (by omega)) ?_); rintro e6 w6 ⟨⟨b6, g6, rfl, hO6, hn6⟩, h6⟩) | (go_at_call 25; (with_reducible refine Calls.mono (clone2 k.a5 k.m5 k.c5 k.L5 _ (HI.out.s5.kept (((((Keeps.refl [] _).drew.trans1 h1).trans1 h2).trans1 h3).trans1 h4)) (by omega)) ?_); rintro e5 w5 ⟨⟨b5', g5, rfl, hO5, hn5⟩, h5⟩; obtain ⟨b5, rfl⟩ : ∃ b5, b5' = some b5 := Option.ne_none_iff_exists'.1 (fun h => hnil (hn5.1 h))) | (go_at_call 25; (with_reducible refine Calls.mono (clone2 k.a4 k.m4 k.c4 k.L4 _ (HI.out.s4.kept ((((Keeps.refl [] _).drew.trans1 h1).trans1 h2).trans1 h3)) (by omega)) ?_); rintro e4 w4 ⟨⟨b4, g4, rfl, hO4, hn4⟩, h4⟩) | (go_at_call 25; (with_reducible refine Calls.mono (clone2 k.a3 k.m3 k.c3 k.L3 _ (HI.out.s3.kept (((Keeps.refl [] _).drew.trans1 h1).trans1 h2)) (by omega)) ?_); rintro e3 w3 ⟨⟨b3, g3, rfl, hO3, hn3⟩, h3⟩) | (go_at_call 25; (with_reducible refine Calls.mono (clone2 k.a2 k.m2 k.c2 k.L2 _ (HI.out.s2.kept ((Keeps.refl [] _).drew.trans1 h1)) (by omega)) ?_); rintro e2 w2 ⟨⟨b2, g2, rfl, hO2, hn2⟩, h2⟩) | (go_at_call 25; (with_reducible refine Calls.mono (clone2 k.a1 k.m1 k.c1 k.L1 _ (HI.out.s1.kept (Keeps.refl [] _).drew) (by omega)) ?_); rintro e1 w1 ⟨⟨b1, g1, rfl, hO1, hn1⟩, h1⟩)); dsimp only; refine hK _ _ (by first | exact key8 (blk_keeps HB.out (((((((((Keeps.refl [] _).drew.trans1 h1).trans1 h2).trans1 h3).trans1 h4).trans1 h5).trans1 h6).trans1 h7).trans1 h8) (by simp)) | exact key8 (blk_keeps HB.out ((((((((Keeps.refl [] _).drew.trans1 h1).trans1 h2).trans1 h3).trans1 h4).trans1 h5).trans1 h6).trans1 h7) (by simp)) | exact key8 (blk_keeps HB.out (((((((Keeps.refl [] _).drew.trans1 h1).trans1 h2).trans1 h3).trans1 h4).trans1 h5).trans1 h6) (by simp)) | exact key8 (blk_keeps HB.out ((((((Keeps.refl [] _).drew.trans1 h1).trans1 h2).trans1 h3).trans1 h4).trans1 h5) (by simp)) | exact key8 (blk_keeps HB.out (((((Keeps.refl [] _).drew.trans1 h1).trans1 h2).trans1 h3).trans1 h4) (by simp)) | exact key8 (blk_keeps HB.out ((((Keeps.refl [] _).drew.trans1 h1).trans1 h2).trans1 h3) (by simp)) | exact key8 (blk_keeps HB.out (((Keeps.refl [] _).drew.trans1 h1).trans1 h2) (by simp)) | exact key8 (blk_keeps HB.out ((Keeps.refl [] _).drew.trans1 h1) (by simp)) | exact ⟨k0, k1, k2, k3, k4, k5, k6, k7⟩) ?_)); clear hK K; try simp only [Act.put, List.setIfInBounds_toArray, List.set_cons_zero, List.set_cons_succ]))
    refine txt_nil ?_
    have hs := HK.out.trans1 (((((((((Keeps.refl [] _).drew.trans1 h1).trans1 h2).trans1 h3).trans1 h4).trans1 h5).trans1 h6).trans1 h7).trans1 h8)
    have HS := Lib.hid hs
    clear k0 k1 k2 k3 k4 k5 k6 k7 h1 h2 h3 h4 h5 h6 h7 h8 hs hO1 hn1 hO2 hn2 hO3 hn3 hO4 hn4 hO5 hn5 hO6 hn6 hO7 hn7
    go_wp2
    go_ret
    exact ⟨.inr ⟨hok, rfl⟩, HS.out⟩

set_option maxRecDepth 1000000 in
set_option maxHeartbeats 8000000 in
theorem keyOf_bare (k : KA) (w : World) (hk : k.is w) (ht : k.tidy) :
    Calls Tryz.prog 23 #[.agg #[.slice k.a1 k.m1 k.c1, .int .i64 k.E, .slice k.a2 k.m2 k.c2, .slice k.a3 k.m3 k.c3, .slice k.a4 k.m4 k.c4, .slice k.a5 k.m5 k.c5, .slice k.a6 k.m6 k.c6, .slice k.a7 k.m7 k.c7], .int .i64 2] w fun e w' => KeyOfB e w' (bval k.L1) k.E (bval k.L2) ∧ Keeps [] w w' := by
  have hb0 : (w.alloc (.cells #[.slice k.a1 k.m1 k.c1, .int .i64 k.E, .slice k.a2 k.m2 k.c2, .slice k.a3 k.m3 k.c3, .slice k.a4 k.m4 k.c4, .slice k.a5 k.m5 k.c5, .slice k.a6 k.m6 k.c6, .slice k.a7 k.m7 k.c7] 24)).heap[w.heap.size]? = some (.cells #[.slice k.a1 k.m1 k.c1, .int .i64 k.E, .slice k.a2 k.m2 k.c2, .slice k.a3 k.m3 k.c3, .slice k.a4 k.m4 k.c4, .slice k.a5 k.m5 k.c5, .slice k.a6 k.m6 k.c6, .slice k.a7 k.m7 k.c7] 24 (0, 0)) := alloc_blk _ _
  have hk0 : Keeps [] w (w.alloc (.cells #[.slice k.a1 k.m1 k.c1, .int .i64 k.E, .slice k.a2 k.m2 k.c2, .slice k.a3 k.m3 k.c3, .slice k.a4 k.m4 k.c4, .slice k.a5 k.m5 k.c5, .slice k.a6 k.m6 k.c6, .slice k.a7 k.m7 k.c7] 24)) := (Keeps.refl _ _).alloc _
  have HB := Lib.hid hb0
  have HK := Lib.hid hk0
  have HI := Lib.hid (hk.kept hk0)
  have HT := Lib.hid ht
  have S0 := key8 hb0
  have hE := hk.E
  have q1 := hk.s1.1; have r1 := ht.t1.1; have q2 := hk.s2.1; have r2 := ht.t2.1
  clear hb0 hk0 hk ht
  go_enter Tryz.func23, Tryz.ntmps23
  by_cases hok : BareOk (bval k.L1) (bval k.L2) k.E
  · go_wp2_with fail
    refine wp_region_txt [0,0,1,2,0,0,0,0,0,2,2,0,0,0,0,0] (fun w' => w'.cell? ⟨w.heap.size, 0, none⟩ = some (.slice k.a1 k.m1 k.c1) ∧ w'.cell? ⟨w.heap.size, 1, none⟩ = some (.int .i64 k.E) ∧ w'.cell? ⟨w.heap.size, 2, none⟩ = some (.slice k.a2 k.m2 k.c2) ∧ w'.cell? ⟨w.heap.size, 3, none⟩ = some (.slice k.a3 k.m3 k.c3) ∧ w'.cell? ⟨w.heap.size, 4, none⟩ = some (.slice k.a4 k.m4 k.c4) ∧ w'.cell? ⟨w.heap.size, 5, none⟩ = some (.slice k.a5 k.m5 k.c5) ∧ w'.cell? ⟨w.heap.size, 6, none⟩ = some (.slice k.a6 k.m6 k.c6) ∧ w'.cell? ⟨w.heap.size, 7, none⟩ = some (.slice k.a7 k.m7 k.c7)) (by kernel_rfl) (by kernel_rfl) S0 ?_
    obtain ⟨k0, k1, k2, k3, k4, k5, k6, k7⟩ := S0
    simp only [withMarks]
    repeat (first
      | ((with_reducible refine txt_v (v := ?_) ?_ ?_); (any_goals ((with_reducible refine Yl.mk ?_ ?_); rfl; intro w hSw; (go_simp <;> (try go_bits) <;> (repeat (first | rw [if_pos (by omega)] | rw [if_neg (by omega)])) <;> with_reducible rfl))); try simp only [Act.put, List.setIfInBounds_toArray, List.set_cons_zero, List.set_cons_succ])
      | ((with_reducible refine txt_u ?_ ?_); rfl; try simp only [Act.put, List.setIfInBounds_toArray, List.set_cons_zero, List.set_cons_succ])
      | ((with_reducible refine txt_l (v := ?_) ?_ ?_); (any_goals ((with_reducible refine Reads.mk ?_ ?_); rfl; (go_simp <;> (try go_bits) <;> (repeat (first | rw [if_pos (by omega)] | rw [if_neg (by omega)])) <;> with_reducible rfl))); try simp only [Act.put, List.setIfInBounds_toArray, List.set_cons_zero, List.set_cons_succ])
      | ((with_reducible refine txt_e ?_ ?_); rfl; intro K hK; go_simp; (first | (refine hK _ _ (by first | exact key8 (blk_keeps HB.out ((((Keeps.refl [] _).drew.trans1 h1).trans1 h2).trans1 h3) (by simp)) | exact key8 (blk_keeps HB.out (((Keeps.refl [] _).drew.trans1 h1).trans1 h2) (by simp)) | exact key8 (blk_keeps HB.out ((Keeps.refl [] _).drew.trans1 h1) (by simp)) | exact ⟨k0, k1, k2, k3, k4, k5, k6, k7⟩) ?_) | ((first | (go_at_call 39; refine (newPrivBare_ok b1 b2 _ _ _ _ k.L1 k.L2 k.E _ (hO1.kept h2) hO2 (by omega) (by omega) (HT.out.t2.fits q2) hE hok).mono ?_; rintro e3 w3 ⟨⟨Z, rfl, hI, hh⟩, h3⟩) | (go_at_call 25; (with_reducible refine Calls.mono (clone2 k.a2 k.m2 k.c2 k.L2 _ (HI.out.s2.kept ((Keeps.refl [] _).drew.trans1 h1)) (by omega)) ?_); rintro e2 w2 ⟨⟨b2, g2, rfl, hO2, hn2⟩, h2⟩) | (go_at_call 25; (with_reducible refine Calls.mono (clone2 k.a1 k.m1 k.c1 k.L1 _ (HI.out.s1.kept (Keeps.refl [] _).drew) (by omega)) ?_); rintro e1 w1 ⟨⟨b1, g1, rfl, hO1, hn1⟩, h1⟩)); dsimp only; refine hK _ _ (by first | exact key8 (blk_keeps HB.out ((((Keeps.refl [] _).drew.trans1 h1).trans1 h2).trans1 h3) (by simp)) | exact key8 (blk_keeps HB.out (((Keeps.refl [] _).drew.trans1 h1).trans1 h2) (by simp)) | exact key8 (blk_keeps HB.out ((Keeps.refl [] _).drew.trans1 h1) (by simp)) | exact ⟨k0, k1, k2, k3, k4, k5, k6, k7⟩) ?_)); clear hK K; try simp only [Act.put, List.setIfInBounds_toArray, List.set_cons_zero, List.set_cons_succ]))
    refine txt_nil ?_
    have hs := HK.out.trans1 ((((Keeps.refl [] _).drew.trans1 h1).trans1 h2).trans1 h3)
    have HS := Lib.hid hs
    have HZ := Lib.hid hI; have HH := Lib.hid hh
    clear k0 k1 k2 k3 k4 k5 k6 k7 h1 h2 h3 hs hI hh hO1 hn1 hO2 hn2
    go_wp2
    go_ret
    exact ⟨.inl ⟨hok, Z, rfl, HZ.out, HH.out⟩, HS.out⟩
  · go_wp2_with fail
    refine wp_region_txt [0,0,1,2,0,0,0,0,0,2,2,0,0,0,0,0] (fun w' => w'.cell? ⟨w.heap.size, 0, none⟩ = some (.slice k.a1 k.m1 k.c1) ∧ w'.cell? ⟨w.heap.size, 1, none⟩ = some (.int .i64 k.E) ∧ w'.cell? ⟨w.heap.size, 2, none⟩ = some (.slice k.a2 k.m2 k.c2) ∧ w'.cell? ⟨w.heap.size, 3, none⟩ = some (.slice k.a3 k.m3 k.c3) ∧ w'.cell? ⟨w.heap.size, 4, none⟩ = some (.slice k.a4 k.m4 k.c4) ∧ w'.cell? ⟨w.heap.size, 5, none⟩ = some (.slice k.a5 k.m5 k.c5) ∧ w'.cell? ⟨w.heap.size, 6, none⟩ = some (.slice k.a6 k.m6 k.c6) ∧ w'.cell? ⟨w.heap.size, 7, none⟩ = some (.slice k.a7 k.m7 k.c7)) (by kernel_rfl) (by kernel_rfl) S0 ?_
    obtain ⟨k0, k1, k2, k3, k4, k5, k6, k7⟩ := S0
    simp only [withMarks]
    repeat (first
      | ((with_reducible refine txt_v (v := ?_) ?_ ?_); (any_goals ((with_reducible refine Yl.mk ?_ ?_); rfl; intro w hSw; (go_simp <;> (try go_bits) <;> (repeat (first | rw [if_pos (by omega)] | rw [if_neg (by omega)])) <;> with_reducible rfl))); try simp only [Act.put, List.setIfInBounds_toArray, List.set_cons_zero, List.set_cons_succ])
      | ((with_reducible refine txt_u ?_ ?_); rfl; try simp only [Act.put, List.setIfInBounds_toArray, List.set_cons_zero, List.set_cons_succ])
      | ((with_reducible refine txt_l (v := ?_) ?_ ?_); (any_goals ((with_reducible refine Reads.mk ?_ ?_); rfl; (go_simp <;> (try go_bits) <;> (repeat (first | rw [if_pos (by omega)] | rw [if_neg (by omega)])) <;> with_reducible rfl))); try simp only [Act.put, List.setIfInBounds_toArray, List.set_cons_zero, List.set_cons_succ])
      | ((with_reducible refine txt_e ?_ ?_); rfl; intro K hK; go_simp; (first | (refine hK _ _ (by first | exact key8 (blk_keeps HB.out ((((Keeps.refl [] _).drew.trans1 h1).trans1 h2).trans1 h3) (by simp)) | exact key8 (blk_keeps HB.out (((Keeps.refl [] _).drew.trans1 h1).trans1 h2) (by simp)) | exact key8 (blk_keeps HB.out ((Keeps.refl [] _).drew.trans1 h1) (by simp)) | exact ⟨k0, k1, k2, k3, k4, k5, k6, k7⟩) ?_) | ((first | (go_at_call 39; refine (newPrivBare_no b1 b2 _ _ _ _ k.L1 k.L2 k.E _ (hO1.kept h2) hO2 (by omega) (by omega) (HT.out.t2.fits q2) hE hok).mono ?_; rintro e3 w3 ⟨⟨t, x, rfl⟩, h3⟩) | (go_at_call 25; (with_reducible refine Calls.mono (clone2 k.a2 k.m2 k.c2 k.L2 _ (HI.out.s2.kept ((Keeps.refl [] _).drew.trans1 h1)) (by omega)) ?_); rintro e2 w2 ⟨⟨b2, g2, rfl, hO2, hn2⟩, h2⟩) | (go_at_call 25; (with_reducible refine Calls.mono (clone2 k.a1 k.m1 k.c1 k.L1 _ (HI.out.s1.kept (Keeps.refl [] _).drew) (by omega)) ?_); rintro e1 w1 ⟨⟨b1, g1, rfl, hO1, hn1⟩, h1⟩)); dsimp only; refine hK _ _ (by first | exact key8 (blk_keeps HB.out ((((Keeps.refl [] _).drew.trans1 h1).trans1 h2).trans1 h3) (by simp)) | exact key8 (blk_keeps HB.out (((Keeps.refl [] _).drew.trans1 h1).trans1 h2) (by simp)) | exact key8 (blk_keeps HB.out ((Keeps.refl [] _).drew.trans1 h1) (by simp)) | exact ⟨k0, k1, k2, k3, k4, k5, k6, k7⟩) ?_)); clear hK K; try simp only [Act.put, List.setIfInBounds_toArray, List.set_cons_zero, List.set_cons_succ]))
    refine txt_nil ?_
    have hs := HK.out.trans1 ((((Keeps.refl [] _).drew.trans1 h1).trans1 h2).trans1 h3)
    have HS := Lib.hid hs
    clear k0 k1 k2 k3 k4 k5 k6 k7 h1 h2 h3 hs hO1 hn1 hO2 hn2
    go_wp2
    go_ret
    exact ⟨.inr ⟨hok, rfl⟩, HS.out⟩

end Go.Proofs.YtnfjmngchapdnaaGreatDoor
