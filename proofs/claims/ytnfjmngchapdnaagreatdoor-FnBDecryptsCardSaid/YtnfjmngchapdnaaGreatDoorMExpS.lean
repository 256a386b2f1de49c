import Derived.Test.YtnfjmngchapdnaaGreatDoorMMontRep
import Derived.Deep.LoopGhost
/- bigmod: Exp, what its parts leave: the table, a round. -/
namespace Go.Proofs.YtnfjmngchapdnaaGreatDoor
open Go.RowKit

set_option maxRecDepth 100000 in
set_option maxHeartbeats 1000000 in
theorem newNat_at (b p e : Nat) (w : World) (hw : w.heap.size = b) (hp : p = b + 1) (he : e = b + 2) : Calls Tryz.prog 51 #[] w fun en w' =>
    en = .returned (.pointer (some ⟨p, 0, none⟩)) ∧ NatV w' p b 0 32 0 ∧ w'.heap.size = e ∧ Keeps [] w w' := by
  obtain ⟨w1, hm, hr, hk, hs⟩ := run_make_words w 0 32 (by omega) (by omega)
  have hm' : ((Instr.makeSlice 110 (.int .i64 0) (.int .i64 32)).run Tryz.prog w) = .ok (.slice (some ⟨w.heap.size, 0, none⟩) 0 32) w1 := hm
  clear hm
  have Hs := Lib.hid hs
  have HW := Lib.hid hw; have HP := Lib.hid hp; have HE := Lib.hid he
  clear hs hw hp he
  go_enter Tryz.func51, Tryz.ntmps51
  go_wp2
  go_ret
  have e1 : p = w1.heap.size := by rw [HP.out, Hs.out, HW.out]
  have e2 : b = w.heap.size := HW.out.symm
  subst e1 e2
  refine ⟨rfl, ⟨Hdr.new w1 _ _ _, [], List.replicate 32 0, hr.alloc _, rfl, by simp, Lt.nil, rfl⟩, ?_, hk.alloc _⟩
  rw [HE.out, World.size_alloc, Hs.out]

/-- k Nats that are new, from block B on. -/
structure TabZ (w0 w : World) (B k : Nat) : Prop where
  size : w.heap.size = B + 2 * k
  nats : ∀ i, i < k → NatV w (B + 2 * i + 1) (B + 2 * i) 0 32 0
  keeps : Keeps [] w0 w
theorem newNat_tab (B k p : Nat) (w0 w : World) (h : TabZ w0 w B k) (hp : p = B + 2 * k + 1) : Calls Tryz.prog 51 #[] w fun en w' =>
    en = .returned (.pointer (some ⟨p, 0, none⟩)) ∧ TabZ w0 w' B (k + 1) := by
  refine (newNat_at (B + 2 * k) p (B + 2 * k + 2) w h.size hp rfl).mono ?_
  rintro en w' ⟨rfl, h1, h2, h3⟩
  refine ⟨rfl, by omega, fun i hi => ?_, h.keeps.trans1 h3⟩
  by_cases e : i = k
  · subst e; subst hp; exact h1
  · exact (h.nats i (by omega)).kept h3

/-- The table's block. -/
def tabArr (B : Nat) : Array Value := #[.pointer (some ⟨B + 1, 0, none⟩), .pointer (some ⟨B + 3, 0, none⟩), .pointer (some ⟨B + 5, 0, none⟩), .pointer (some ⟨B + 7, 0, none⟩), .pointer (some ⟨B + 9, 0, none⟩), .pointer (some ⟨B + 11, 0, none⟩), .pointer (some ⟨B + 13, 0, none⟩), .pointer (some ⟨B + 15, 0, none⟩), .pointer (some ⟨B + 17, 0, none⟩), .pointer (some ⟨B + 19, 0, none⟩), .pointer (some ⟨B + 21, 0, none⟩), .pointer (some ⟨B + 23, 0, none⟩), .pointer (some ⟨B + 25, 0, none⟩), .pointer (some ⟨B + 27, 0, none⟩), .pointer (some ⟨B + 29, 0, none⟩)]
theorem tabArr_get (B i : Nat) (hi : i < 15) : (tabArr B)[i]? = some (.pointer (some ⟨B + 2 * i + 1, 0, none⟩)) := by
  obtain h | h | h | h | h | h | h | h | h | h | h | h | h | h | h : i = 0 ∨ i = 1 ∨ i = 2 ∨ i = 3 ∨ i = 4 ∨ i = 5 ∨ i = 6 ∨ i = 7 ∨ i = 8 ∨ i = 9 ∨ i = 10 ∨ i = 11 ∨ i = 12 ∨ i = 13 ∨ i = 14 := by omega
  all_goals (subst h; rfl)
/-- The table: k of its Nats are set, the rest are new. -/
structure Tab15 (w : World) (B tb k n : Nat) (F : Nat → Nat) : Prop where
  blk : w.heap[tb]? = some (.cells (tabArr B) 136 (0, 0))
  set : ∀ i, i < k → NatV w (B + 2 * i + 1) (B + 2 * i) n 32 (F i)
  new : ∀ i, k ≤ i → i < 15 → NatV w (B + 2 * i + 1) (B + 2 * i) 0 32 0
theorem Tab15.cell {w : World} {B tb k n : Nat} {F : Nat → Nat} (h : Tab15 w B tb k n F) (i : Nat) (hi : i < 15) : w.cell? ⟨tb, i, none⟩ = some (.pointer (some ⟨B + 2 * i + 1, 0, none⟩)) := by
  rw [← tabArr_get B i hi]
  simp [World.cell?, h.blk]
theorem Tab15.keeps {S : List Nat} {w w' : World} {B tb k n : Nat} {F : Nat → Nat} (h : Tab15 w B tb k n F) (hk : Keeps S w w') (hS : ∀ x, x ∈ S → x ≠ tb ∧ (x < B ∨ B + 30 ≤ x)) (k15 : k ≤ 15) : Tab15 w' B tb k n F := by
  refine ⟨blk_keeps h.blk hk (fun hh => (hS _ hh).1 rfl), fun i hi => (h.set i hi).keeps hk (fun hh => ?_) (fun hh => ?_), fun i hi h15 => (h.new i hi h15).keeps hk (fun hh => ?_) (fun hh => ?_)⟩
  all_goals (have := (hS _ hh).2; omega)

theorem Tab15.next {w w' : World} {B tb k n : Nat} {F : Nat → Nat} (h : Tab15 w B tb k n F) (hk : Keeps [B + 2 * k + 1, B + 2 * k] w w') (hx : NatV w' (B + 2 * k + 1) (B + 2 * k) n 32 (F k)) (htb : tb = B + 30) (k15 : k < 15) : Tab15 w' B tb (k + 1) n F := by
  refine ⟨blk_keeps h.blk hk (by simp; omega), fun i hi => ?_, fun i hi h15 => (h.new i (by omega) h15).keeps hk (by simp; omega) (by simp; omega)⟩
  by_cases e : i = k
  · subst e; exact hx
  · exact (h.set i (by omega)).keeps hk (by simp; omega) (by simp; omega)
theorem exp_tab {v R m i : Nat} : ((v ^ (i + 1) * R) % m * ((v ^ (0 + 1) * R) % m)) % m = ((v ^ (i + 1 + 1) * R) * R) % m := by
  rw [← Nat.mul_mod]
  congr 1
  rw [Nat.zero_add, Nat.pow_one, Nat.pow_succ v (i + 1)]
  grind

theorem bval_take_succ (L : List Nat) (i : Nat) (hi : i < L.length) : bval (L.take (i + 1)) = bval (L.take i) * 256 + L[i] := by
  rw [List.take_succ_eq_append_getElem hi, bval_append]
  simp [bval]
/-- One nibble of a byte. -/
def nib (x t : Nat) : Nat := if t = 0 then x / 16 else x % 16
theorem nib_lt {x t : Nat} (hx : x < 256) : nib x t < 16 := by unfold nib; split <;> omega
theorem and_15b (a : Nat) (ha : a < 256) : Go.bits .and .u8 (a : Int) 15 = ((a % 16 : Nat) : Int) := by
  have h1 : (BitVec.ofInt 8 (a : Int)).toNat = a := by
    rw [BitVec.ofInt_natCast, BitVec.toNat_ofNat]; exact Nat.mod_eq_of_lt (by omega)
  have h2 : (BitVec.ofInt 8 (15 : Int)).toNat = 15 := by decide
  have h3 : a &&& 15 = a % 16 := Nat.and_two_pow_sub_one_eq_mod a 4
  show IntKind.u8.wrap ((BitVec.ofInt 8 (a : Int) &&& BitVec.ofInt 8 (15 : Int)).toNat : Int) = _
  rw [BitVec.toNat_and, h1, h2, h3, IntKind.wrap_u8]
  omega
theorem exp_step {v E k R m o : Nat} (hk : k < 16) (h : o = (v ^ (16 * E) * R) % m) : (o * ((v ^ k * R) % m)) % m = ((v ^ (16 * E + k) * R) * R) % m := by
  rw [h, ← Nat.mul_mod, Nat.pow_add]
  congr 1
  grind

/-- The exponent behind t nibbles of the byte x. -/
def expE (E x : Nat) : Nat → Nat
  | 0 => E
  | 1 => 16 * E + x / 16
  | _ => 16 * (16 * E + x / 16) + x % 16
/-- What does not turn while Exp runs: who lies where. -/
structure ExpE (B p lb pt lt pm pn ln pr lr : Nat) : Prop where
  p1 : p < B
  l1 : lb < B
  pt1 : B + 31 ≤ pt
  lt1 : B + 31 ≤ lt
  ms : ∀ x, x ∈ [pm, pn, ln, pr, lr] → x ≠ p ∧ x ≠ lb ∧ x < B
/-- A round of Exp: out is v to the E in Montgomery form. -/
structure ExpS (w0 wx : World) (B p lb pt lt pm pn ln pr lr n m m0 v E : Nat) : Prop where
  o : NatV wx p lb n 32 ((v ^ E * BB ^ n) % m)
  t : ∃ u, NatV wx pt lt n 32 u
  tab : Tab15 wx B (B + 30) 15 n (fun i => (v ^ (i + 1) * BB ^ n) % m)
  md : ModO wx pm pn ln pr lr n m m0
  k : Keeps [p, lb] w0 wx
theorem ExpS.kept {w0 wx w' : World} {B p lb pt lt pm pn ln pr lr n m m0 v E : Nat} (h : ExpS w0 wx B p lb pt lt pm pn ln pr lr n m m0 v E) (hk : Keeps [] wx w') : ExpS w0 w' B p lb pt lt pm pn ln pr lr n m m0 v E :=
  ⟨h.o.kept hk, h.t.elim fun u hu => ⟨u, hu.kept hk⟩, h.tab.keeps hk (by simp) (by omega), h.md.kept hk, h.k.trans hk (by simp)⟩
theorem ExpS.drew {w0 wx : World} {B p lb pt lt pm pn ln pr lr n m m0 v E : Nat} (h : ExpS w0 wx B p lb pt lt pm pn ln pr lr n m m0 v E) : ExpS w0 wx.drew B p lb pt lt pm pn ln pr lr n m m0 v E := h.kept (Keeps.refl _ _).drew
theorem ExpS.out {w0 wx w' : World} {B p lb pt lt pm pn ln pr lr n m m0 v E E' : Nat} (he : ExpE B p lb pt lt pm pn ln pr lr) (h : ExpS w0 wx B p lb pt lt pm pn ln pr lr n m m0 v E) (hk : Keeps [p, lb] wx w')
    (ho : NatV w' p lb n 32 ((v ^ E' * BB ^ n) % m)) : ExpS w0 w' B p lb pt lt pm pn ln pr lr n m m0 v E' := by
  have h1 := he.p1; have h2 := he.l1; have h3 := he.pt1; have h4 := he.lt1
  have a1 := he.ms pm (by simp); have a2 := he.ms pn (by simp); have a3 := he.ms ln (by simp); have a4 := he.ms pr (by simp); have a5 := he.ms lr (by simp)
  refine ⟨ho, h.t.elim fun u hu => ⟨u, hu.keeps hk (by simp; omega) (by simp; omega)⟩, h.tab.keeps hk (by intro x hx; simp at hx; omega) (by omega), h.md.keeps hk ?_ ?_ ?_ ?_ ?_, h.k.trans1 hk⟩
  all_goals (simp; omega)
theorem ExpS.tmp {w0 wx w' : World} {B p lb pt lt pm pn ln pr lr n m m0 v E u : Nat} (he : ExpE B p lb pt lt pm pn ln pr lr) (hB : w0.heap.size = B) (h : ExpS w0 wx B p lb pt lt pm pn ln pr lr n m m0 v E) (hk : Keeps [pt, lt] wx w')
    (ht : NatV w' pt lt n 32 u) : ExpS w0 w' B p lb pt lt pm pn ln pr lr n m m0 v E := by
  have h1 := he.p1; have h2 := he.l1; have h3 := he.pt1; have h4 := he.lt1
  have a1 := he.ms pm (by simp); have a2 := he.ms pn (by simp); have a3 := he.ms ln (by simp); have a4 := he.ms pr (by simp); have a5 := he.ms lr (by simp)
  refine ⟨h.o.keeps hk (by simp; omega) (by simp; omega), ⟨u, ht⟩, h.tab.keeps hk (by intro x hx; simp at hx; omega) (by omega), h.md.keeps hk ?_ ?_ ?_ ?_ ?_, h.k.trans hk (by intro x hx hlt; simp at hx; omega)⟩
  all_goals (simp; omega)
theorem exp_sq1 {w0 wx : World} {B p lb pt lt pm pn ln pr lr n m m0 v E : Nat} (he : ExpE B p lb pt lt pm pn ln pr lr) (h : ExpS w0 wx B p lb pt lt pm pn ln pr lr n m m0 v E) :
    Calls Tryz.prog 94 #[.pointer (some ⟨p, 0, none⟩), .pointer (some ⟨p, 0, none⟩), .pointer (some ⟨p, 0, none⟩), .pointer (some ⟨pm, 0, none⟩)] wx fun e w' =>
      e = .returned (.pointer (some ⟨p, 0, none⟩)) ∧ ExpS w0 w' B p lb pt lt pm pn ln pr lr n m m0 v (2 * E) ∧ Keeps [p, lb, pt, lt] wx w' := by
  have a3 := he.ms ln (by simp)
  have hgt := h.md.gt
  refine (mont_any p lb n 32 _ p lb 32 _ p lb 32 _ pm pn ln n m m0 true _ _ h.o h.o h.o h.md.b h.md.inv a3.2.1 (by have := h.md.n31; omega) (by omega) (Nat.mod_lt _ (by omega)) h.md.n31).mono ?_
  rintro e w' ⟨rfl, v', hlt, heq, hx, hk⟩
  have hv' : v' = (v ^ (2 * E) * BB ^ n) % m := by
    refine mont_unique (n := n) h.md.odd hlt ?_
    rw [heq, ← Nat.mul_mod, Nat.two_mul, Nat.pow_add]
    congr 1
    grind
  subst hv'
  exact ⟨rfl, h.out he hk hx, hk.mono (by simp)⟩
theorem exp_mulT {w0 wx : World} {B p lb pt lt pm pn ln pr lr n m m0 v E u : Nat} (he : ExpE B p lb pt lt pm pn ln pr lr) (hB : w0.heap.size = B) (h : ExpS w0 wx B p lb pt lt pm pn ln pr lr n m m0 v E) (ht : NatV wx pt lt n 32 u) :
    Calls Tryz.prog 94 #[.pointer (some ⟨pt, 0, none⟩), .pointer (some ⟨p, 0, none⟩), .pointer (some ⟨pt, 0, none⟩), .pointer (some ⟨pm, 0, none⟩)] wx fun e w' =>
      e = .returned (.pointer (some ⟨pt, 0, none⟩)) ∧ ∃ u', NatV w' pt lt n 32 u' ∧ (∀ k, u = (v ^ k * BB ^ n) % m → u' = (v ^ (E + k) * BB ^ n) % m) ∧ ExpS w0 w' B p lb pt lt pm pn ln pr lr n m m0 v E ∧ Keeps [p, lb, pt, lt] wx w' := by
  have a3 := he.ms ln (by simp)
  have h4 := he.lt1
  have hgt := h.md.gt
  refine (mont_any pt lt n 32 _ p lb 32 _ pt lt 32 _ pm pn ln n m m0 true _ _ ht h.o ht h.md.b h.md.inv (by omega) (by have := h.md.n31; omega) (by omega) (Nat.mod_lt _ (by omega)) h.md.n31).mono ?_
  rintro e w' ⟨rfl, v', hlt, heq, hx, hk⟩
  refine ⟨rfl, v', hx, fun k hk => ?_, h.tmp he hB hk hx, hk.mono (by simp)⟩
  refine mont_unique (n := n) h.md.odd hlt ?_
  rw [heq, hk, ← Nat.mul_mod, Nat.pow_add]
  congr 1
  grind
theorem exp_pick {pr' : Prop} {w0 wx : World} {B p lb pt lt pm pn ln pr lr n m m0 v E u i c : Nat} (he : ExpE B p lb pt lt pm pn ln pr lr) (hB : w0.heap.size = B) (h : ExpS w0 wx B p lb pt lt pm pn ln pr lr n m m0 v E) (ht : NatV wx pt lt n 32 u) (hi : i < 15) (hc : Ch pr' c) :
    Calls Tryz.prog 95 #[.pointer (some ⟨pt, 0, none⟩), .int .u64 (c : Int), .pointer (some ⟨B + 2 * i + 1, 0, none⟩)] wx fun e w' =>
      e = .returned (.pointer (some ⟨pt, 0, none⟩)) ∧ ∃ u', NatV w' pt lt n 32 u' ∧ (pr' → u' = (v ^ (i + 1) * BB ^ n) % m) ∧ (¬ pr' → u' = u) ∧ ExpS w0 w' B p lb pt lt pm pn ln pr lr n m m0 v E ∧ Keeps [p, lb, pt, lt] wx w' := by
  have h4 := he.lt1
  refine (nat_assign pt lt (B + 2 * i + 1) (B + 2 * i) n 32 32 u ((v ^ (i + 1) * BB ^ n) % m) c _ ht (h.tab.set i hi) (by omega) hc (by have := h.md.n31; omega)).mono ?_
  rintro e w' ⟨v', rfl, h1, h2, hx, hk⟩
  exact ⟨rfl, v', hx, h1, h2, h.tmp he hB (hk.mono (by simp)) hx, hk.mono (by simp)⟩
theorem exp_take {pr' : Prop} {w0 wx : World} {B p lb pt lt pm pn ln pr lr n m m0 v E E' u c : Nat} (he : ExpE B p lb pt lt pm pn ln pr lr) (h : ExpS w0 wx B p lb pt lt pm pn ln pr lr n m m0 v E) (ht : NatV wx pt lt n 32 u) (hc : Ch pr' c)
    (h1 : pr' → u = (v ^ E' * BB ^ n) % m) (h2 : ¬ pr' → E' = E) :
    Calls Tryz.prog 95 #[.pointer (some ⟨p, 0, none⟩), .int .u64 (c : Int), .pointer (some ⟨pt, 0, none⟩)] wx fun e w' =>
      e = .returned (.pointer (some ⟨p, 0, none⟩)) ∧ ExpS w0 w' B p lb pt lt pm pn ln pr lr n m m0 v E' ∧ Keeps [p, lb, pt, lt] wx w' := by
  have h4 := he.lt1; have h5 := he.l1
  refine (nat_assign p lb pt lt n 32 32 _ u c _ h.o ht (by omega) hc (by have := h.md.n31; omega)).mono ?_
  rintro e w' ⟨v', rfl, g1, g2, hx, hk⟩
  have hv' : v' = (v ^ E' * BB ^ n) % m := by
    by_cases hp : pr'
    · rw [g1 hp, h1 hp]
    · rw [g2 hp, h2 hp]
  subst hv'
  exact ⟨rfl, h.out he (hk.mono (by simp)) hx, hk.mono (by simp)⟩
theorem ctEq_s (x c : Nat) (hx : x < BB) (hc : c < 1000) (w : World) :
    Calls Tryz.prog 96 #[.int .u64 x, .int .u64 ((c : Int) + 1)] w fun e w' => ∃ r : Nat, e = .returned (.int .u64 (r : Int)) ∧ Ch (x = c + 1) r ∧ w = w' := by
  have h := ctEq_any x (c + 1) hx (by unfold BB; omega) w
  rw [Int.natCast_succ] at h
  exact h

end Go.Proofs.YtnfjmngchapdnaaGreatDoor
