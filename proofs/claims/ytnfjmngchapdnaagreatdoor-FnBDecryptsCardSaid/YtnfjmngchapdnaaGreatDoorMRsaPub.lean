import Derived.Test.YtnfjmngchapdnaaGreatDoorMNewMod
/- rsa: a public key; checkPublicKey, ZZNewPublicKey, ZZCheckPublicKey. -/
namespace Go.Proofs.YtnfjmngchapdnaaGreatDoor
open Go.RowKit

theorem and_one_i64 (a : Nat) (ha : a < 9223372036854775808) : Go.bits .and .i64 (a : Int) 1 = ((a % 2 : Nat) : Int) := by
  have h1 : (BitVec.ofInt 64 (a : Int)).toNat = a := by
    rw [BitVec.ofInt_natCast, BitVec.toNat_ofNat]; exact Nat.mod_eq_of_lt (by omega)
  have h2 : (BitVec.ofInt 64 (1 : Int)).toNat = 1 := by decide
  show IntKind.i64.wrap ((BitVec.ofInt 64 (a : Int) &&& BitVec.ofInt 64 (1 : Int)).toNat : Int) = _
  rw [BitVec.toNat_and, h1, h2, Nat.and_one_is_mod]
  have : a % 2 < 2 := Nat.mod_lt _ (by omega)
  rcases Nat.mod_two_eq_zero_or_one a with h | h <;> rw [h] <;> decide

/-- A public key at pp: its modulus at pm, its exponent E. -/
def PubV (w : World) (pp pm : Nat) (E : Int) : Prop := w.heap[pp]? = some (.cells #[.pointer (some ⟨pm, 0, none⟩), .int .i64 E] 97 (0, 0))
theorem PubV.lt {w : World} {pp pm : Nat} {E : Int} (h : PubV w pp pm E) : pp < w.heap.size := lt_of_block h
theorem PubV.c0 {w : World} {pp pm : Nat} {E : Int} (h : PubV w pp pm E) : w.cell? ⟨pp, 0, none⟩ = some (.pointer (some ⟨pm, 0, none⟩)) := by
  unfold PubV at h; simp [World.cell?, h]
theorem PubV.c1 {w : World} {pp pm : Nat} {E : Int} (h : PubV w pp pm E) : w.cell? ⟨pp, 1, none⟩ = some (.int .i64 E) := by
  unfold PubV at h; simp [World.cell?, h]
theorem PubV.keeps {S : List Nat} {w w' : World} {pp pm : Nat} {E : Int} (h : PubV w pp pm E) (hk : Keeps S w w') (hb : pp ∉ S) : PubV w' pp pm E := blk_keeps h hk hb
theorem PubV.kept {w w' : World} {pp pm : Nat} {E : Int} (h : PubV w pp pm E) (hk : Keeps [] w w') : PubV w' pp pm E := h.keeps hk (by simp)

/-- A public key at pp, wherever it lies: its modulus at pm, its exponent E. -/
structure PubC (w : World) (pp pm : Nat) (E : Int) : Prop where
  c0 : w.cell? ⟨pp, 0, none⟩ = some (.pointer (some ⟨pm, 0, none⟩))
  c1 : w.cell? ⟨pp, 1, none⟩ = some (.int .i64 E)
theorem PubC.lt {w : World} {pp pm : Nat} {E : Int} (h : PubC w pp pm E) : pp < w.heap.size := by
  have h1 := h.c0
  unfold World.cell? at h1
  by_cases hp : pp < w.heap.size
  · exact hp
  · simp [Array.getElem?_eq_none (by omega : w.heap.size ≤ pp)] at h1
theorem PubV.toC {w : World} {pp pm : Nat} {E : Int} (h : PubV w pp pm E) : PubC w pp pm E := ⟨h.c0, h.c1⟩
theorem PubC.keeps {S : List Nat} {w w' : World} {pp pm : Nat} {E : Int} (h : PubC w pp pm E) (hk : Keeps S w w') (hb : pp ∉ S) : PubC w' pp pm E := by
  have e := hk.block pp h.lt hb
  refine ⟨?_, ?_⟩
  · have := h.c0; unfold World.cell? at this ⊢; rw [e]; exact this
  · have := h.c1; unfold World.cell? at this ⊢; rw [e]; exact this
theorem PubC.kept {w w' : World} {pp pm : Nat} {E : Int} (h : PubC w pp pm E) (hk : Keeps [] w w') : PubC w' pp pm E := h.keeps hk (by simp)

def PubOk (m : Nat) (E : Int) : Prop := m % 2 = 1 ∧ 2 < E ∧ E < 2147483648 ∧ E % 2 = 1

set_option maxRecDepth 100000 in
set_option maxHeartbeats 1000000 in
theorem checkPublicKey_c (pp pm pn ln pr lr n m : Nat) (E : Int) (w : World) (hp : PubC w pp pm E) (hm : ModX w pm pn ln pr lr n m) (hE : -9223372036854775808 ≤ E ∧ E < 9223372036854775808) :
    Calls Tryz.prog 61 #[.pointer (some ⟨pp, 0, none⟩)] w fun e w' =>
      (∃ b v, e = .returned (.tuple #[.bool b, v]) ∧ ((PubOk m E ∧ v = .nilIface) ∨ (¬ PubOk m E ∧ IsErr v))) ∧ Keeps [] w w' := by
  have c0 := hp.c0
  obtain ⟨odd, m0, rv, hb⟩ := hm.modB
  have hn31 := hm.n31
  go_enter Tryz.func61, Tryz.ntmps61
  go_wp2_with fail
  refine (mod_Nat pm pn ln n m m0 odd rv _ hb).mono ?_
  rintro e w1 ⟨p, lb, rfl, hx, hp1, hl1, hk1⟩
  have hp' := hp.kept hk1
  have hb' := hb.kept hk1
  have c0' := hp'.c0
  have c1' := hp'.c1
  have HK := Lib.hid hk1
  clear hk1 hp c0 hb
  go_wp2_with fail
  refine (nat_IsOdd p lb n 32 m _ hx (by omega)).mono ?_
  rintro e w2 ⟨r, rfl, hr, rfl⟩
  rcases hr.case with ⟨rfl, hodd⟩ | ⟨rfl, hodd⟩
  · clear hr
    go_wp2_with fail
    refine (errors_New _ _).mono ?_
    rintro e w3 ⟨⟨b, rfl, _, _⟩, hk⟩
    go_wp2
    go_ret2
    exact ⟨⟨_, _, rfl, .inr ⟨fun h => hodd h.1, _, _, rfl⟩⟩, HK.out.trans1 hk⟩
  · clear hr
    go_wp2_with fail
    refine (mod_BitLen pm pn ln n m m0 odd rv _ hb').mono ?_
    rintro e w3 ⟨rfl, rfl⟩
    by_cases hA : (blen m : Int) < 2048 <;>
    (go_wp2_with fail
     refine (mod_BitLen pm pn ln n m m0 odd rv _ hb').mono ?_
     rintro e w3 ⟨rfl, rfl⟩
     by_cases hB : (blen m : Int) % 2 = 1 <;>
     (by_cases hC : E < 2
      · go_wp2_with fail
        refine (errors_New _ _).mono ?_
        rintro e w3 ⟨⟨b, rfl, _, _⟩, hk⟩
        go_wp2
        go_ret2
        exact ⟨⟨_, _, rfl, .inr ⟨fun h => by have := h.2.1; omega, _, _, rfl⟩⟩, HK.out.trans1 hk⟩
      · obtain ⟨k, rfl⟩ : ∃ k : Nat, E = (k : Int) := ⟨E.toNat, by omega⟩
        have hand := and_one_i64 k (by omega)
        rcases Nat.mod_two_eq_zero_or_one k with h2 | h2
        · rw [h2] at hand
          have hand' : Go.bits .and .i64 (k : Int) 1 = 0 := hand
          clear hand
          go_wp2_with fail
          refine (errors_New _ _).mono ?_
          rintro e w3 ⟨⟨b, rfl, _, _⟩, hk⟩
          go_wp2
          go_ret2
          exact ⟨⟨_, _, rfl, .inr ⟨fun h => by have := h.2.2.2; omega, _, _, rfl⟩⟩, HK.out.trans1 hk⟩
        · rw [h2] at hand
          have hand' : Go.bits .and .i64 (k : Int) 1 = 1 := hand
          clear hand
          by_cases hD : (k : Int) ≤ 65536
          · have hD2 : ¬ (k : Int) > 2147483647 := by omega
            go_wp2
            go_ret2
            exact ⟨⟨_, _, rfl, .inl ⟨⟨hodd, by omega, by omega, by omega⟩, rfl⟩⟩, HK.out⟩
          · by_cases hF : (k : Int) > 2147483647
            · go_wp2_with fail
              refine (errors_New _ _).mono ?_
              rintro e w3 ⟨⟨b, rfl, _, _⟩, hk⟩
              go_wp2
              go_ret2
              exact ⟨⟨_, _, rfl, .inr ⟨fun h => by have := h.2.2.1; omega, _, _, rfl⟩⟩, HK.out.trans1 hk⟩
            · go_wp2
              go_ret2
              exact ⟨⟨_, _, rfl, .inl ⟨⟨hodd, by omega, by omega, by omega⟩, rfl⟩⟩, HK.out⟩))
theorem checkPublicKey_any (pp pm pn ln pr lr n m : Nat) (E : Int) (w : World) (hp : PubV w pp pm E) (hm : ModX w pm pn ln pr lr n m) (hE : -9223372036854775808 ≤ E ∧ E < 9223372036854775808) :
    Calls Tryz.prog 61 #[.pointer (some ⟨pp, 0, none⟩)] w fun e w' =>
      (∃ b v, e = .returned (.tuple #[.bool b, v]) ∧ ((PubOk m E ∧ v = .nilIface) ∨ (¬ PubOk m E ∧ IsErr v))) ∧ Keeps [] w w' := checkPublicKey_c pp pm pn ln pr lr n m E w hp.toC hm hE

end Go.Proofs.YtnfjmngchapdnaaGreatDoor
