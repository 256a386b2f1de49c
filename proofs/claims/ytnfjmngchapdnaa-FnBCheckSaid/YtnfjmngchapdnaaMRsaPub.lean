import Derived.Test.YtnfjmngchapdnaaMNewMod
import Derived.Shelf.Slices.Clone
import Derived.Defers
import Derived.Recover
/- rsa: a public key; checkPublicKey, ZZNewPublicKey, ZZCheckPublicKey. -/
namespace Go.Proofs.Ytnfjmngchapdnaa
open Go.RowKit

theorem and_one_i64 (a : Nat) (ha : a < 9223372036854775808) : Go.bits .and .i64 (a : Int) 1 = ((a % 2 : Nat) : Int) := by
  have h1 : (BitVec.ofInt 64 (a : Int)).toNat = a := by
    rw [BitVec.ofInt_natCast, BitVec.toNat_ofNat]; exact Nat.mod_eq_of_lt (by omega)
  have h2 : (BitVec.ofInt 64 (1 : Int)).toNat = 1 := by decide
  show IntKind.i64.wrap ((BitVec.ofInt 64 (a : Int) &&& BitVec.ofInt 64 (1 : Int)).toNat : Int) = _
  rw [BitVec.toNat_and, h1, h2, Nat.and_one_is_mod]
  have : a % 2 < 2 := Nat.mod_lt _ (by omega)
  rcases Nat.mod_two_eq_zero_or_one a with h | h <;> rw [h] <;> decide

/-- A public key at pp: its modulus at pm, its exponent E. -/
def PubV (w : World) (pp pm : Nat) (E : Int) : Prop := w.heap[pp]? = some (.cells #[.pointer (some ⟨pm, 0, none⟩), .int .i64 E] 72 (0, 0))
theorem PubV.lt {w : World} {pp pm : Nat} {E : Int} (h : PubV w pp pm E) : pp < w.heap.size := lt_of_block h
theorem PubV.c0 {w : World} {pp pm : Nat} {E : Int} (h : PubV w pp pm E) : w.cell? ⟨pp, 0, none⟩ = some (.pointer (some ⟨pm, 0, none⟩)) := by
  unfold PubV at h; simp [World.cell?, h]
theorem PubV.c1 {w : World} {pp pm : Nat} {E : Int} (h : PubV w pp pm E) : w.cell? ⟨pp, 1, none⟩ = some (.int .i64 E) := by
  unfold PubV at h; simp [World.cell?, h]
theorem PubV.keeps {S : List Nat} {w w' : World} {pp pm : Nat} {E : Int} (h : PubV w pp pm E) (hk : Keeps S w w') (hb : pp ∉ S) : PubV w' pp pm E := blk_keeps h hk hb
theorem PubV.kept {w w' : World} {pp pm : Nat} {E : Int} (h : PubV w pp pm E) (hk : Keeps [] w w') : PubV w' pp pm E := h.keeps hk (by simp)

/-- A public key at pp, wherever it lies: its modulus at pm, its exponent E. -/
structure PubC (w : World) (pp pm : Nat) (E : Int) : Prop where
  c0 : w.cell? ⟨pp, 0, none⟩ = some (.pointer (some ⟨pm, 0, none⟩))
  c1 : w.cell? ⟨pp, 1, none⟩ = some (.int .i64 E)
theorem PubC.lt {w : World} {pp pm : Nat} {E : Int} (h : PubC w pp pm E) : pp < w.heap.size := by
  have h1 := h.c0
  unfold World.cell? at h1
  by_cases hp : pp < w.heap.size
  · exact hp
  · simp [Array.getElem?_eq_none (by omega : w.heap.size ≤ pp)] at h1
theorem PubV.toC {w : World} {pp pm : Nat} {E : Int} (h : PubV w pp pm E) : PubC w pp pm E := ⟨h.c0, h.c1⟩
theorem PubC.keeps {S : List Nat} {w w' : World} {pp pm : Nat} {E : Int} (h : PubC w pp pm E) (hk : Keeps S w w') (hb : pp ∉ S) : PubC w' pp pm E := by
  have e := hk.block pp h.lt hb
  refine ⟨?_, ?_⟩
  · have := h.c0; unfold World.cell? at this ⊢; rw [e]; exact this
  · have := h.c1; unfold World.cell? at this ⊢; rw [e]; exact this
theorem PubC.kept {w w' : World} {pp pm : Nat} {E : Int} (h : PubC w pp pm E) (hk : Keeps [] w w') : PubC w' pp pm E := h.keeps hk (by simp)

def PubOk (m : Nat) (E : Int) : Prop := m % 2 = 1 ∧ 2 < E ∧ E < 2147483648 ∧ E % 2 = 1

set_option maxRecDepth 100000 in
set_option maxHeartbeats 1000000 in
theorem checkPublicKey_c (pp pm pn ln pr lr n m : Nat) (E : Int) (w : World) (hp : PubC w pp pm E) (hm : ModX w pm pn ln pr lr n m) (hE : -9223372036854775808 ≤ E ∧ E < 9223372036854775808) :
    Calls Try.prog 38 #[.pointer (some ⟨pp, 0, none⟩)] w fun e w' =>
      (∃ b v, e = .returned (.tuple #[.bool b, v]) ∧ ((PubOk m E ∧ v = .nilIface) ∨ (¬ PubOk m E ∧ IsErr v))) ∧ Keeps [] w w' := by
  have c0 := hp.c0
  obtain ⟨odd, m0, rv, hb⟩ := hm.modB
  have hn31 := hm.n31
  go_enter Try.func38, Try.ntmps38
  go_wp2_with fail
  refine (mod_Nat pm pn ln n m m0 odd rv _ hb).mono ?_
  rintro e w1 ⟨p, lb, rfl, hx, hp1, hl1, hk1⟩
  have hp' := hp.kept hk1
  have hb' := hb.kept hk1
  have c0' := hp'.c0
  have c1' := hp'.c1
  have HK := Lib.hid hk1
  clear hk1 hp c0 hb
  go_wp2_with fail
  refine (nat_IsOdd p lb n 32 m _ hx (by omega)).mono ?_
  rintro e w2 ⟨r, rfl, hr, rfl⟩
  rcases hr.case with ⟨rfl, hodd⟩ | ⟨rfl, hodd⟩
  · clear hr
    go_wp2_with fail
    refine (errors_New _ _).mono ?_
    rintro e w3 ⟨⟨b, rfl, _, _⟩, hk⟩
    go_wp2
    go_ret2
    exact ⟨⟨_, _, rfl, .inr ⟨fun h => hodd h.1, _, _, rfl⟩⟩, HK.out.trans1 hk⟩
  · clear hr
    go_wp2_with fail
    refine (mod_BitLen pm pn ln n m m0 odd rv _ hb').mono ?_
    rintro e w3 ⟨rfl, rfl⟩
    by_cases hA : (blen m : Int) < 2048 <;>
    (go_wp2_with fail
     refine (mod_BitLen pm pn ln n m m0 odd rv _ hb').mono ?_
     rintro e w3 ⟨rfl, rfl⟩
     by_cases hB : (blen m : Int) % 2 = 1 <;>
     (by_cases hC : E < 2
      · go_wp2_with fail
        refine (errors_New _ _).mono ?_
        rintro e w3 ⟨⟨b, rfl, _, _⟩, hk⟩
        go_wp2
        go_ret2
        exact ⟨⟨_, _, rfl, .inr ⟨fun h => by have := h.2.1; omega, _, _, rfl⟩⟩, HK.out.trans1 hk⟩
      · obtain ⟨k, rfl⟩ : ∃ k : Nat, E = (k : Int) := ⟨E.toNat, by omega⟩
        have hand := and_one_i64 k (by omega)
        rcases Nat.mod_two_eq_zero_or_one k with h2 | h2
        · rw [h2] at hand
          have hand' : Go.bits .and .i64 (k : Int) 1 = 0 := hand
          clear hand
          go_wp2_with fail
          refine (errors_New _ _).mono ?_
          rintro e w3 ⟨⟨b, rfl, _, _⟩, hk⟩
          go_wp2
          go_ret2
          exact ⟨⟨_, _, rfl, .inr ⟨fun h => by have := h.2.2.2; omega, _, _, rfl⟩⟩, HK.out.trans1 hk⟩
        · rw [h2] at hand
          have hand' : Go.bits .and .i64 (k : Int) 1 = 1 := hand
          clear hand
          by_cases hD : (k : Int) ≤ 65536
          · have hD2 : ¬ (k : Int) > 2147483647 := by omega
            go_wp2
            go_ret2
            exact ⟨⟨_, _, rfl, .inl ⟨⟨hodd, by omega, by omega, by omega⟩, rfl⟩⟩, HK.out⟩
          · by_cases hF : (k : Int) > 2147483647
            · go_wp2_with fail
              refine (errors_New _ _).mono ?_
              rintro e w3 ⟨⟨b, rfl, _, _⟩, hk⟩
              go_wp2
              go_ret2
              exact ⟨⟨_, _, rfl, .inr ⟨fun h => by have := h.2.2.1; omega, _, _, rfl⟩⟩, HK.out.trans1 hk⟩
            · go_wp2
              go_ret2
              exact ⟨⟨_, _, rfl, .inl ⟨⟨hodd, by omega, by omega, by omega⟩, rfl⟩⟩, HK.out⟩))
theorem checkPublicKey_any (pp pm pn ln pr lr n m : Nat) (E : Int) (w : World) (hp : PubV w pp pm E) (hm : ModX w pm pn ln pr lr n m) (hE : -9223372036854775808 ≤ E ∧ E < 9223372036854775808) :
    Calls Try.prog 38 #[.pointer (some ⟨pp, 0, none⟩)] w fun e w' =>
      (∃ b v, e = .returned (.tuple #[.bool b, v]) ∧ ((PubOk m E ∧ v = .nilIface) ∨ (¬ PubOk m E ∧ IsErr v))) ∧ Keeps [] w w' := checkPublicKey_c pp pm pn ln pr lr n m E w hp.toC hm hE

end Go.Proofs.Ytnfjmngchapdnaa

/- slices.Clone of bytes, rsa.ZZNewPublicKey, ZZCheckPublicKey, impl.publicOf. -/
namespace Go.Proofs.Ytnfjmngchapdnaa
open Go.RowKit

def u8s (L : List Nat) : List Value := L.map fun (x : Nat) => .int .u8 (x : Int)
theorem und_bytes : Try.prog.underlying 22 = some (.slice 5) := by kernel_rfl
theorem info_byte : (Try.prog.info? 5).map (fun i => (i.zero, i.size, i.bytes)) = some (some (.int .u8 0), 1, 1) := by kernel_rfl

theorem alloc_cell (w : World) (C : Array Value) (t : TypeId) (i : Nat) : (w.alloc (.cells C t)).cell? ⟨w.heap.size, i, none⟩ = C[i]? := by
  have h : (w.alloc (.cells C t)).heap[w.heap.size]? = some (.cells C t (0, 0)) := by
    show (w.heap.push _)[w.heap.size]? = _
    rw [Array.getElem?_push, if_pos rfl]
  unfold World.cell?
  rw [h]; rfl

/-- What an append to a row of bytes of one's own leaves. -/
theorem SlB.of_own {w : World} {B : Nat} {v : Value} {n : Nat} {L : List Nat} (h : w.ownsRow B 5 1 v n (u8s L)) (hL : LtB L) :
    ∃ a c, v = .slice a n c ∧ SlB w a n c L ∧ (L ≠ [] → ∃ b, a = some ⟨b, 0, none⟩ ∧ B ≤ b) := by
  obtain ⟨h1, h2⟩ := h
  have hn : L.length = n := by simpa [u8s] using h1
  rcases h2 with ⟨rfl, rfl⟩ | ⟨g, cap, cur, rfl, hb, hg, hc, hm, hs, ht⟩
  · have : L = [] := List.length_eq_zero_iff.1 hn
    subst this
    exact ⟨none, 0, rfl, ⟨rfl, Nat.le_refl _, hL, fun h => absurd rfl h⟩, fun h => absurd rfl h⟩
  · refine ⟨some ⟨g, 0, none⟩, cap, rfl, ⟨hn, hc, hL, fun _ => ⟨g, 0, rfl, lt_of_block hg, ?_⟩⟩, fun _ => ⟨g, rfl, hb⟩⟩
    intro i hi
    have e : (u8s L)[i]? = some (.int .u8 (L[i] : Int)) := by simp [u8s, hi]
    rw [← ht, List.getElem?_take] at e
    split at e
    · simp only [World.cell?, hg, Nat.zero_add]
      rw [← e]; simp
    · simp at e

set_option maxHeartbeats 2000000 in
set_option maxRecDepth 100000 in
theorem clone_bytes (a : Option Addr) (m c : Nat) (L : List Nat) (w : World) (hs : SlB w a m c L) (hm : m ≤ 100000) :
    Calls Try.prog 27 #[.slice a m c] w fun e w' =>
      ∃ a' c', e = .returned (.slice a' m c') ∧ SlB w' a' m c' L ∧ (L ≠ [] → ∃ b, a' = some ⟨b, 0, none⟩ ∧ w.heap.size ≤ b) ∧ Keeps [] w w' := by
  obtain ⟨i0, hi, hz0, hz1, hz2⟩ := info_parts info_byte
  have hu := und_bytes
  have q22 : ∀ (w : World) (a : Option Addr) (n c n' c' : Nat), (binOp .eql 22 (.slice a n c) (.slice none n' c')).run Try.prog w = .ok (.bool a.isNone) w := fun w a n c n' c' => Lib.run_eql_slice_nil w _ _ a n c n' c' und_bytes
  have HS := Lib.hid hs
  obtain ⟨h1, h2, h3, h4⟩ := hs
  rcases a with _ | ad
  · have hL : L = [] := by
      rcases List.eq_nil_or_concat L with h | ⟨M, x, h⟩
      · exact h
      · obtain ⟨b, o, e, _⟩ := h4 (by rw [h]; simp)
        simp at e
    clear h4
    have hm0 : m = 0 := by rw [← h1, hL]; rfl
    subst hm0
    subst hL
    go_enter Try.func27, Try.ntmps27
    go_wp2
    go_ret
    exact ⟨none, 0, rfl, ⟨rfl, Nat.le_refl _, h3, fun h => absurd rfl h⟩, fun h => absurd rfl h, Keeps.refl _ _⟩
  · have H4 := Lib.hid h4
    clear h4
    go_enter Try.func27, Try.ntmps27
    go_wp2_with (at_builtin; refine wpList_append_own _ rfl _ _ 22 rfl w.heap.size 5 i0 (.int .u8 0) 1 1 hu hi hz0 hz1 hz2 rfl (by decide) _ _ _ rfl (World.ownsRow_made w #[] 0 (Nat.le_refl _) (Nat.zero_le _) rfl) ad m c (u8s L) rfl ?qc1 ?qc2 ?qc3 ?qc4 ?qc5 ?qc6 ?_)
    case qc1 => simp [u8s, h1]
    case qc2 =>
      intro j u hj
      have hjn : j < L.length := by
        have := (List.getElem?_eq_some_iff.1 hj).1
        simpa [u8s] using this
      obtain ⟨b, o, e, hb, hB⟩ := H4.out (by intro h; simp [h] at hjn)
      have e' : ad = ⟨b, o, none⟩ := by simpa using e
      subst e'
      have h5 := hB j hjn
      rw [Addr.add_lit]
      refine Lib.cell?_alloc_some _ ?_
      rw [h5]
      simpa [u8s, hjn] using hj
    case qc3 => intro u hu; obtain ⟨x, _, rfl⟩ := List.mem_map.1 hu; rfl
    case qc4 => unfold maxLen; omega
    case qc5 => omega
    case qc6 => simp
    intro v' w1 hown hgrow hnil
    go_wp2
    go_ret
    have hk : Keeps [] w w1 := Keeps.below (((Below.refl _ w).alloc (Nat.le_refl _) _).grown hgrow (by simp) (by intro k hk; simp [Value.ownBlock] at hk; omega)) rfl
    have hown' : w1.ownsRow w.heap.size 5 1 v' m (u8s L) := by simpa using hown
    obtain ⟨a', c', rfl, h5, h6⟩ := SlB.of_own hown' h3
    exact ⟨a', c', rfl, h5, h6, hk⟩

end Go.Proofs.Ytnfjmngchapdnaa

/- rsa.ZZNewPublicKey, ZZCheckPublicKey, impl.publicOf. -/
namespace Go.Proofs.Ytnfjmngchapdnaa
open Go.RowKit

theorem PubV.new (w : World) (pm : Nat) (E : Int) : PubV (w.alloc (.cells #[.pointer (some ⟨pm, 0, none⟩), .int .i64 E] 72)) w.heap.size pm E := by
  unfold PubV
  show (w.heap.push _)[w.heap.size]? = _
  rw [Array.getElem?_push, if_pos rfl]

set_option maxRecDepth 100000 in
set_option maxHeartbeats 1000000 in
theorem zzNewPublicKey_any (a : Option Addr) (m cb : Nat) (L : List Nat) (E : Int) (w : World) (hs : SlB w a m cb L) (hm : m ≤ 240) :
    Calls Try.prog 26 #[.slice a m cb, .int .i64 E] w fun e w' =>
      ((1 < bval L ∧ ∃ pp pm pn ln pr lr n, e = .returned (.tuple #[.pointer (some ⟨pp, 0, none⟩), .nilIface]) ∧ PubV w' pp pm E ∧ ModX w' pm pn ln pr lr n (bval L) ∧ n ≤ 30) ∨
        (bval L ≤ 1 ∧ ∃ v, e = .returned (.tuple #[.pointer none, v]) ∧ IsErr v)) ∧ Keeps [] w w' := by
  go_enter Try.func26, Try.ntmps26
  go_wp2_with fail
  rcases Nat.lt_or_ge 1 (bval L) with h1 | h1
  · refine (newModulus_bytes_ok a m cb L _ hs hm h1).mono ?_
    rintro e w1 ⟨pm, pn, ln, pr, lr, n, rfl, hX, hn, _, _, _, _, _, hk⟩
    go_wp2
    go_ret2
    have hk2 : Keeps [] w1 (w1.alloc (.cells #[.pointer (some ⟨pm, 0, none⟩), .int .i64 E] 72)) := (Keeps.refl _ _).alloc _
    exact ⟨.inl ⟨h1, _, pm, pn, ln, pr, lr, n, rfl, PubV.new w1 pm E, hX.kept hk2, hn⟩, hk.trans1 hk2⟩
  · refine (newModulus_bytes_err a m cb L _ hs hm h1).mono ?_
    rintro e w1 ⟨⟨v, rfl, t, x, rfl⟩, hk⟩
    go_wp2
    go_ret2
    exact ⟨.inr ⟨h1, _, rfl, t, x, rfl⟩, hk⟩

set_option maxRecDepth 100000 in
set_option maxHeartbeats 1000000 in
theorem zzCheckPublicKey_any (pp pm pn ln pr lr n m : Nat) (E : Int) (w : World) (hp : PubV w pp pm E) (hm : ModX w pm pn ln pr lr n m) (hE : -9223372036854775808 ≤ E ∧ E < 9223372036854775808) :
    Calls Try.prog 28 #[.pointer (some ⟨pp, 0, none⟩)] w fun e w' =>
      (∃ v, e = .returned v ∧ ((PubOk m E ∧ v = .nilIface) ∨ (¬ PubOk m E ∧ IsErr v))) ∧ Keeps [] w w' := by
  go_enter Try.func28, Try.ntmps28
  go_wp2_with fail
  refine (checkPublicKey_any pp pm pn ln pr lr n m E _ hp hm hE).mono ?_
  rintro e w1 ⟨⟨b, v, rfl, h⟩, hk⟩
  go_wp2
  go_ret
  exact ⟨⟨_, rfl, h⟩, hk⟩

theorem zzNewPublicKey_ok (a : Option Addr) (m cb : Nat) (L : List Nat) (E : Int) (w : World) (hs : SlB w a m cb L) (hm : m ≤ 240) (h1 : 1 < bval L) :
    Calls Try.prog 26 #[.slice a m cb, .int .i64 E] w fun e w' =>
      (∃ pp pm pn ln pr lr n, e = .returned (.tuple #[.pointer (some ⟨pp, 0, none⟩), .nilIface]) ∧ PubV w' pp pm E ∧ ModX w' pm pn ln pr lr n (bval L) ∧ n ≤ 30) ∧ Keeps [] w w' :=
  (zzNewPublicKey_any a m cb L E w hs hm).mono (by
    rintro e w' ⟨⟨_, h⟩ | ⟨h, _⟩, hk⟩
    · exact ⟨h, hk⟩
    · omega)
theorem zzNewPublicKey_err (a : Option Addr) (m cb : Nat) (L : List Nat) (E : Int) (w : World) (hs : SlB w a m cb L) (hm : m ≤ 240) (h1 : bval L ≤ 1) :
    Calls Try.prog 26 #[.slice a m cb, .int .i64 E] w fun e w' =>
      (∃ t x, e = .returned (.tuple #[.pointer none, .iface t x])) ∧ Keeps [] w w' :=
  (zzNewPublicKey_any a m cb L E w hs hm).mono (by
    rintro e w' ⟨⟨h, _⟩ | ⟨_, v, h, t, x, rfl⟩, hk⟩
    · omega
    · exact ⟨⟨t, x, h⟩, hk⟩)

theorem Keeps.cell {S : List Nat} {w w' : World} {b i : Nat} {v : Value} (h : w.cell? ⟨b, i, none⟩ = some v) (hk : Keeps S w w') (hb : b < w.heap.size) (hS : b ∉ S) : w'.cell? ⟨b, i, none⟩ = some v := by
  rw [← h]; exact World.cell?_of_block (w := w) (hk.block b hb hS)

set_option maxRecDepth 100000 in
set_option maxHeartbeats 2000000 in
theorem publicOf_any (a : Option Addr) (m cb : Nat) (L : List Nat) (E : Int) (a2 a3 a4 a5 a6 a7 : Option Addr) (n2 c2 n3 c3 n4 c4 n5 c5 n6 c6 n7 c7 : Nat) (w : World) (hs : SlB w a m cb L) (hm : m ≤ 240) (hE : -9223372036854775808 ≤ E ∧ E < 9223372036854775808) :
    Calls Try.prog 14 #[.agg #[.slice a m cb, .int .i64 E, .slice a2 n2 c2, .slice a3 n3 c3, .slice a4 n4 c4, .slice a5 n5 c5, .slice a6 n6 c6, .slice a7 n7 c7]] w fun e w' =>
      ((1 < bval L ∧ PubOk (bval L) E ∧ ∃ pp pm pn ln pr lr n, e = .returned (.pointer (some ⟨pp, 0, none⟩)) ∧ PubV w' pp pm E ∧ ModX w' pm pn ln pr lr n (bval L) ∧ n ≤ 30) ∨
        (¬ (1 < bval L ∧ PubOk (bval L) E) ∧ e = .returned (.pointer none))) ∧ Keeps [] w w' := by
  obtain ⟨C, hC⟩ : ∃ C, C = #[Value.slice a m cb, .int .i64 E, .slice a2 n2 c2, .slice a3 n3 c3, .slice a4 n4 c4, .slice a5 n5 c5, .slice a6 n6 c6, .slice a7 n7 c7] := ⟨_, rfl⟩
  have k0 : (w.alloc (.cells C 24)).cell? ⟨w.heap.size, 0, none⟩ = some (.slice a m cb) := by rw [alloc_cell, hC]; rfl
  have k1 : (w.alloc (.cells C 24)).cell? ⟨w.heap.size, 1, none⟩ = some (.int .i64 E) := by rw [alloc_cell, hC]; rfl
  have hk0 : Keeps [] w (w.alloc (.cells C 24)) := (Keeps.refl _ _).alloc _
  have hsz : w.heap.size < (w.alloc (.cells C 24)).heap.size := by simp
  rw [hC] at k0 k1 hk0 hsz
  clear hC C
  have HK0 := Lib.hid hk0; have HSZ := Lib.hid hsz
  clear hk0 hsz
  go_enter Try.func14, Try.ntmps14
  rcases Nat.lt_or_ge 1 (bval L) with h1 | h1
  · go_wp2_with fail
    refine wp_region_txt [0,1,2,0,0,2,0,0,0,0,0] (fun w' => w'.cell? ⟨w.heap.size, 1, none⟩ = some (.int .i64 E)) (by kernel_rfl) (by kernel_rfl) k1 ?_
    simp only [withMarks]
    repeat (first
      | ((with_reducible refine txt_v (v := ?_) ?_ ?_); (any_goals ((with_reducible refine Yl.mk ?_ ?_); rfl; intro w hSw; (go_simp <;> (try go_bits) <;> (repeat (first | rw [if_pos (by omega)] | rw [if_neg (by omega)])) <;> with_reducible rfl))); try simp only [Act.put, List.setIfInBounds_toArray, List.set_cons_zero, List.set_cons_succ])
      | ((with_reducible refine txt_u ?_ ?_); rfl; try simp only [Act.put, List.setIfInBounds_toArray, List.set_cons_zero, List.set_cons_succ])
      | ((with_reducible refine txt_l (v := ?_) ?_ ?_); (any_goals ((with_reducible refine Reads.mk ?_ ?_); rfl; (go_simp <;> (try go_bits) <;> (repeat (first | rw [if_pos (by omega)] | rw [if_neg (by omega)])) <;> with_reducible rfl))); try simp only [Act.put, List.setIfInBounds_toArray, List.set_cons_zero, List.set_cons_succ])
      | ((with_reducible refine txt_e ?_ ?_); rfl; intro K hK; go_simp; (first | (refine hK _ _ (by first | exact Keeps.cell k1 (((Keeps.refl _ _).drew.trans1 hk1).trans1 hk2) HSZ.out (by simp) | exact Keeps.cell k1 ((Keeps.refl _ _).drew.trans1 hk1) HSZ.out (by simp) | exact k1) ?_) | ((first | (go_at_call 26; refine (zzNewPublicKey_ok a1 m c1 L E _ hs1 hm h1).mono ?_; rintro e w2 ⟨⟨pp, pm, pn, ln, pr, lr, n, rfl, hP, hX, hn⟩, hk2⟩) | (go_at_call 27; refine (clone_bytes a m cb L _ (hs.kept HK0.out.drew) (by omega)).mono ?_; rintro e w1 ⟨a1, c1, rfl, hs1, _, hk1⟩)); dsimp only; refine hK _ _ (by first | exact Keeps.cell k1 (((Keeps.refl _ _).drew.trans1 hk1).trans1 hk2) HSZ.out (by simp) | exact Keeps.cell k1 ((Keeps.refl _ _).drew.trans1 hk1) HSZ.out (by simp) | exact k1) ?_)); clear hK K; try simp only [Act.put, List.setIfInBounds_toArray, List.set_cons_zero, List.set_cons_succ]))
    refine txt_nil ?_
    have hk3 := (HK0.out.drew.trans1 hk1).trans1 hk2
    go_wp2_with fail
    refine (zzCheckPublicKey_any pp pm pn ln pr lr n _ E _ hP hX hE).mono ?_
    rintro e w3 ⟨⟨v, rfl, ⟨hok, rfl⟩ | ⟨hno, t, x, rfl⟩⟩, hk4⟩
    · go_wp2
      go_ret
      exact ⟨.inl ⟨h1, hok, pp, pm, pn, ln, pr, lr, n, rfl, hP.kept hk4, hX.kept hk4, hn⟩, hk3.trans1 hk4⟩
    · go_wp2
      go_ret
      exact ⟨.inr ⟨fun h => hno h.2, rfl⟩, hk3.trans1 hk4⟩
  · go_wp2_with fail
    refine wp_region_txt [0,1,2,0,0,2,0,0,0,0,0] (fun w' => w'.cell? ⟨w.heap.size, 1, none⟩ = some (.int .i64 E)) (by kernel_rfl) (by kernel_rfl) k1 ?_
    simp only [withMarks]
    repeat (first
      | ((with_reducible refine txt_v (v := ?_) ?_ ?_); (any_goals ((with_reducible refine Yl.mk ?_ ?_); rfl; intro w hSw; (go_simp <;> (try go_bits) <;> (repeat (first | rw [if_pos (by omega)] | rw [if_neg (by omega)])) <;> with_reducible rfl))); try simp only [Act.put, List.setIfInBounds_toArray, List.set_cons_zero, List.set_cons_succ])
      | ((with_reducible refine txt_u ?_ ?_); rfl; try simp only [Act.put, List.setIfInBounds_toArray, List.set_cons_zero, List.set_cons_succ])
      | ((with_reducible refine txt_l (v := ?_) ?_ ?_); (any_goals ((with_reducible refine Reads.mk ?_ ?_); rfl; (go_simp <;> (try go_bits) <;> (repeat (first | rw [if_pos (by omega)] | rw [if_neg (by omega)])) <;> with_reducible rfl))); try simp only [Act.put, List.setIfInBounds_toArray, List.set_cons_zero, List.set_cons_succ])
      | ((with_reducible refine txt_e ?_ ?_); rfl; intro K hK; go_simp; (first | (refine hK _ _ (by first | exact Keeps.cell k1 (((Keeps.refl _ _).drew.trans1 hk1).trans1 hk2) HSZ.out (by simp) | exact Keeps.cell k1 ((Keeps.refl _ _).drew.trans1 hk1) HSZ.out (by simp) | exact k1) ?_) | ((first | (go_at_call 26; refine (zzNewPublicKey_err a1 m c1 L E _ hs1 hm h1).mono ?_; rintro e w2 ⟨⟨t, x, rfl⟩, hk2⟩) | (go_at_call 27; refine (clone_bytes a m cb L _ (hs.kept HK0.out.drew) (by omega)).mono ?_; rintro e w1 ⟨a1, c1, rfl, hs1, _, hk1⟩)); dsimp only; refine hK _ _ (by first | exact Keeps.cell k1 (((Keeps.refl _ _).drew.trans1 hk1).trans1 hk2) HSZ.out (by simp) | exact Keeps.cell k1 ((Keeps.refl _ _).drew.trans1 hk1) HSZ.out (by simp) | exact k1) ?_)); clear hK K; try simp only [Act.put, List.setIfInBounds_toArray, List.set_cons_zero, List.set_cons_succ]))
    refine txt_nil ?_
    have hk3 := (HK0.out.drew.trans1 hk1).trans1 hk2
    go_wp2
    go_ret
    exact ⟨.inr ⟨fun h => by omega, rfl⟩, hk3⟩

end Go.Proofs.Ytnfjmngchapdnaa

/- impl.kept, impl.BPublic. -/
namespace Go.Proofs.Ytnfjmngchapdnaa
open Go.RowKit

theorem kept_idle (p : Addr) (w : World) :
    CallsD Try.prog 13 #[.pointer (some p)] .returning w fun e u' w' => e = .returned (.tuple #[]) ∧ u' = .returning ∧ w' = w := by
  refine callsD_of_wpS Try.func13 rfl fun c₀ cs hu => ?_
  apply wpS_seq
  apply wpS_region
  simp [wpOpsS, go_sem, recoverD, hu, Try.ntmps13, Exit.thenS]
  refine wpS_cond (t := false) (by simp [Act.eval, Array.replicate]) ?_
  simp only [Bool.false_eq_true, if_false]
  refine wpS_of_wp (wp_skip ?_)
  cases c₀
  simp_all [bodyPostS, results, Try.results13]

set_option maxRecDepth 100000 in
set_option maxHeartbeats 2000000 in
theorem bPublic_any (a : Option Addr) (m cb : Nat) (L : List Nat) (E : Int) (a2 a3 a4 a5 a6 a7 : Option Addr) (n2 c2 n3 c3 n4 c4 n5 c5 n6 c6 n7 c7 : Nat) (w : World) (hs : SlB w a m cb L) (hm : m ≤ 240) (hE : -9223372036854775808 ≤ E ∧ E < 9223372036854775808) :
    Calls Try.prog 8 #[.agg #[.slice a m cb, .int .i64 E, .slice a2 n2 c2, .slice a3 n3 c3, .slice a4 n4 c4, .slice a5 n5 c5, .slice a6 n6 c6, .slice a7 n7 c7]] w fun e w' =>
      (∃ b, e = .returned (.bool b) ∧ (b = true ↔ (1 < bval L ∧ PubOk (bval L) E))) ∧ Keeps [] w w' := by
  have hk0 : Keeps [] w ((w.alloc (.cells #[Value.slice a m cb, .int .i64 E, .slice a2 n2 c2, .slice a3 n3 c3, .slice a4 n4 c4, .slice a5 n5 c5, .slice a6 n6 c6, .slice a7 n7 c7] 24)).alloc (.cells #[.bool false] 4)) := ((Keeps.refl _ _).alloc _).alloc _
  have hb0 : ((w.alloc (.cells #[Value.slice a m cb, .int .i64 E, .slice a2 n2 c2, .slice a3 n3 c3, .slice a4 n4 c4, .slice a5 n5 c5, .slice a6 n6 c6, .slice a7 n7 c7] 24)).alloc (.cells #[.bool false] 4)).heap[w.heap.size + 1]? = some (.cells #[.bool false] 4 (0, 0)) := by
    show ((w.heap.push _).push _)[w.heap.size + 1]? = _
    rw [Array.getElem?_push, if_pos (by simp)]
  have HK0 := Lib.hid hk0; have HB0 := Lib.hid hb0
  clear hk0 hb0
  go_enter_defers Try.func8, Try.ntmps8
  go_wp2_with fail
  refine (publicOf_any a m cb L E a2 a3 a4 a5 a6 a7 n2 c2 n3 c3 n4 c4 n5 c5 n6 c6 n7 c7 _ (hs.kept HK0.out) hm hE).mono ?_
  rintro e w1 ⟨⟨h1, h2, pp, pm, pn, ln, pr, lr, n, rfl, _, _, _⟩ | ⟨hno, rfl⟩, hk1⟩
  · have hb2 := blk_keeps HB0.out hk1 (by simp)
    have cc := cell_of_one hb2
    have ff := free_of_one hb2
    go_wp2
    refine leaves_cons (f := 13) (args := #[.pointer (some ⟨w.heap.size + 1, 0, none⟩)]) (by simp) (by simp [go_sem]) ?_
    refine (kept_idle ⟨w.heap.size + 1, 0, none⟩ _).mono ?_
    rintro e u' w'' ⟨rfl, rfl, rfl⟩
    have hb3 := one_setCell (u := .bool true) hb2
    have d3 := cell_of_one hb3
    have hk3 := (HK0.out.trans1 hk1).setCell (p := ⟨w.heap.size + 1, 0, none⟩) (fun h => absurd h (by simp)) (.bool true)
    simp [Leaves, settle, results, Try.results8, go_sem, d3]
    exact ⟨⟨h1, h2⟩, hk3⟩
  · have hb2 := blk_keeps HB0.out hk1 (by simp)
    have cc := cell_of_one hb2
    have ff := free_of_one hb2
    go_wp2
    refine leaves_cons (f := 13) (args := #[.pointer (some ⟨w.heap.size + 1, 0, none⟩)]) (by simp) (by simp [go_sem]) ?_
    refine (kept_idle ⟨w.heap.size + 1, 0, none⟩ _).mono ?_
    rintro e u' w'' ⟨rfl, rfl, rfl⟩
    have hb3 := one_setCell (u := .bool false) hb2
    have d3 := cell_of_one hb3
    have hk3 := (HK0.out.trans1 hk1).setCell (p := ⟨w.heap.size + 1, 0, none⟩) (fun h => absurd h (by simp)) (.bool false)
    simp [Leaves, settle, results, Try.results8, go_sem, d3]
    exact ⟨fun h h2 => hno ⟨h, h2⟩, hk3⟩

end Go.Proofs.Ytnfjmngchapdnaa
