import Derived.Test.YtnfjmngchapdnaaGreatDoorMLRest2
import Derived.Test.YtnfjmngchapdnaaGreatDoorMLProd
import Derived.Deep.DeepCutAuto
/- spec.LRest. -/
namespace Go.Proofs.YtnfjmngchapdnaaGreatDoor
open Go.RowKit

theorem bare_le {M : List Nat} {k : Nat} (hb : Bare M) (h : val32 M < W32 ^ k) : M.length ≤ k := by
  rcases Nat.lt_or_ge k M.length with h1 | h1
  · obtain ⟨j, hj⟩ : ∃ j, M.length = j + 1 := ⟨M.length - 1, by omega⟩
    have h2 := val32_bare_lt hb j hj
    have h3 : W32 ^ k ≤ W32 ^ j := Nat.pow_le_pow_right (by decide) (by omega)
    omega
  · exact h1
theorem RetNum.to {e : Ending} {w' : World} {k k' x : Nat} (h : RetNum e w' k x) (hx : x < W32 ^ k') : RetNum e w' k' x := by
  obtain ⟨a, n, c, M, h1, h2, h3, h4, h5⟩ := h
  refine ⟨a, n, c, M, h1, h2, h3, h4, ?_⟩
  rw [← h2.1]
  exact bare_le h4 (by rw [h3]; exact hx)

theorem lRest_any (a a2 : Option Addr) (n c n2 c2 : Nat) (A B : List Nat) (w : World) (hA : N32 w a n c A) (hB : N32 w a2 n2 c2 B) (hn : n ≤ 400) (hn2 : n2 ≤ 400) (hB0 : 0 < val32 B) :
    Calls Tryz.prog 32 #[.slice a n c, .slice a2 n2 c2] w fun e w' => RetNum e w' n2 (val32 A % val32 B) ∧ Keeps [] w w' := by
  have hlt : val32 A % val32 B < W32 ^ n2 := by
    have h1 := val32_lt hB.2.2.1
    rw [hB.1] at h1
    exact Nat.lt_trans (Nat.mod_lt _ hB0) h1
  rcases Nat.lt_or_ge (val32 A) (val32 B) with h | h
  · exact (lRest_less a a2 n c n2 c2 A B w hA hB hn hn2 h).mono fun e w' ⟨h1, h2⟩ => ⟨h1.to hlt, h2⟩
  · rcases Nat.lt_or_ge (val32 B) 4294967296 with h' | h'
    · exact (lRest_one a a2 n c n2 c2 A B w hA hB hn hn2 h hB0 h').mono fun e w' ⟨h1, h2⟩ => ⟨h1.to hlt, h2⟩
    · exact lRest_great a a2 n c n2 c2 A B w hA hB hn hn2 h h'

end Go.Proofs.YtnfjmngchapdnaaGreatDoor

/- spec.LPower. -/
namespace Go.Proofs.YtnfjmngchapdnaaGreatDoor
open Go.RowKit

/-- Four bits of a number. -/
theorem nib_eq {L : List Nat} {q x r : Nat} (hl : Lt32 L) (hx : L[q]? = some x) (hr : r < 8) : val32 L / 16 ^ (8 * q + r) % 16 = x / 2 ^ (4 * r) % 16 := by
  have hq : q < L.length := by
    rcases Nat.lt_or_ge q L.length with h | h
    · exact h
    · rw [List.getElem?_eq_none h] at hx; simp at hx
  have h1 := val32_split L q hq
  have h2 := val32_take_lt hl q (by omega)
  rw [List.getElem?_eq_getElem hq] at hx
  simp only [Option.some.injEq] at hx
  rw [hx] at h1
  have e1 : (16 : Nat) ^ (8 * q) = W32 ^ q := by rw [Nat.pow_mul]; rfl
  have e2 : (16 : Nat) ^ r = 2 ^ (4 * r) := by rw [Nat.pow_mul]
  rw [Nat.pow_add, e1, ← Nat.div_div_eq_div_mul, h1, Nat.add_mul_div_left _ _ (Nat.pow_pos (by decide)), Nat.div_eq_of_lt h2, Nat.zero_add, e2]
  have e3 : W32 = 2 ^ (4 * r) * (16 * 2 ^ (28 - 4 * r)) := by
    have : (16 : Nat) = 2 ^ 4 := rfl
    rw [this, ← Nat.pow_add, ← Nat.pow_add, show 4 * r + (4 + (28 - 4 * r)) = 32 by omega]
    rfl
  have e4 : W32 * val32 (L.drop (q + 1)) = 2 ^ (4 * r) * (16 * (2 ^ (28 - 4 * r) * val32 (L.drop (q + 1)))) := by
    rw [e3, Nat.mul_assoc, Nat.mul_assoc]
  rw [e4, Nat.add_mul_div_left _ _ (Nat.pow_pos (by omega)), Nat.add_mul_mod_self_left]

/-- A table of numbers. -/
def Tab (w : World) (p i m : Nat) (f : Nat → Nat) : Prop :=
  ∃ T : List Value, w.heap[p]? = some (.cells T.toArray 68 (0, 0)) ∧ T.length = 16 ∧ (∀ v, v ∈ T → ∃ a n c, v = .slice a n c) ∧
    ∀ k, k < i → ∃ a n c L, T[k]? = some (.slice a n c) ∧ N32 w a n c L ∧ val32 L = f k ∧ n ≤ m
theorem Tab.kept {w w' : World} {p i m : Nat} {f : Nat → Nat} (h : Tab w p i m f) (hk : Keeps [] w w') : Tab w' p i m f := by
  obtain ⟨T, h1, h2, h3, h4⟩ := h
  refine ⟨T, blk_keeps h1 hk (by simp), h2, h3, fun k hki => ?_⟩
  obtain ⟨a, n, c, L, g1, g2, g3⟩ := h4 k hki
  exact ⟨a, n, c, L, g1, g2.kept hk, g3⟩
theorem N32.other {w : World} {p : Nat} {T : List Value} {ty : TypeId} {a : Option Addr} {n c : Nat} {L : List Nat} (h : N32 w a n c L) (hT : w.heap[p]? = some (.cells T.toArray ty (0, 0))) (hs : ∀ v, v ∈ T → ∃ a n c, v = .slice a n c) (i : Nat) (v : Value) :
    N32 (w.setCell ⟨p, i, none⟩ v) a n c L := by
  obtain ⟨g1, g2, g3, g4⟩ := h
  refine ⟨g1, g2, g3, fun hne => ?_⟩
  obtain ⟨b, o, rfl, hb, hc⟩ := g4 hne
  have hbp : b ≠ p := by
    rintro rfl
    have h0 := hc 0 (List.length_pos_iff.2 hne)
    rw [cell_of_row w b _ _ _ _ hT] at h0
    have hm : Value.int .u32 (L[0]'(List.length_pos_iff.2 hne) : Int) ∈ T := by
      have : T[o + 0]? = some (Value.int .u32 (L[0]'(List.length_pos_iff.2 hne) : Int)) := by simpa using h0
      exact List.mem_of_getElem? this
    obtain ⟨a, n, c, e⟩ := hs _ hm
    cases e
  refine ⟨b, o, rfl, by simpa [World.setCell] using hb, fun j hj => ?_⟩
  rw [← hc j hj]
  exact World.cell?_of_block (w := w) (Below.heap_setCell _ _ _ _ (by simpa using hbp))

/-- The next of the table's numbers. -/
theorem Tab.put {w : World} {p i m : Nat} {f : Nat → Nat} (h : Tab w p i m f) (hi : i < 16) {a : Option Addr} {n c : Nat} {L : List Nat} (hL : N32 w a n c L) (hv : val32 L = f i) (hn : n ≤ m) :
    Tab (w.setCell ⟨p, i, none⟩ (.slice a n c)) p (i + 1) m f := by
  obtain ⟨T, h1, h2, h3, h4⟩ := h
  have hs : (w.setCell ⟨p, i, none⟩ (.slice a n c)).heap[p]? = some (.cells (T.set i (.slice a n c)).toArray 68 (0, 0)) := by
    have hlt := lt_of_block h1
    have h' : w.heap[p] = .cells T.toArray 68 (0, 0) := by simpa [Array.getElem?_eq_getElem hlt] using h1
    show (w.heap.modify p _)[p]? = _
    rw [Array.getElem?_eq_getElem (by simpa using hlt), Array.getElem_modify_self, h']
    simp
  refine ⟨T.set i (.slice a n c), hs, by simp [h2], fun v hv => ?_, fun k hk => ?_⟩
  · rcases List.mem_or_eq_of_mem_set hv with h | h
    · exact h3 v h
    · exact ⟨a, n, c, h⟩
  · by_cases hki : k = i
    · subst hki
      exact ⟨a, n, c, L, by rw [List.getElem?_set_self (by omega)], hL.other h1 h3 _ _, hv, hn⟩
    · obtain ⟨a', n', c', L', g1, g2, g3⟩ := h4 k (by omega)
      exact ⟨a', n', c', L', by rw [List.getElem?_set_ne (by omega)]; exact g1, g2.other h1 h3 _ _, g3⟩
theorem Tab.get {w : World} {p i m : Nat} {f : Nat → Nat} (h : Tab w p i m f) (k : Nat) (hk : k < i) : ∃ a n c L, w.cell? ⟨p, k, none⟩ = some (.slice a n c) ∧ N32 w a n c L ∧ val32 L = f k ∧ n ≤ m := by
  obtain ⟨T, h1, h2, h3, h4⟩ := h
  obtain ⟨a, n, c, L, g1, g2⟩ := h4 k hk
  refine ⟨a, n, c, L, ?_, g2⟩
  rw [cell_of_row w p _ _ _ _ h1]
  simpa using g1
theorem Tab.free {w : World} {p i m : Nat} {f : Nat → Nat} (h : Tab w p i m f) (k : Nat) : w.frozen? ⟨p, k, none⟩ = false := by
  obtain ⟨T, h1, _⟩ := h
  simp [World.frozen?, h1]
theorem Tab.lt {w : World} {p i m : Nat} {f : Nat → Nat} (h : Tab w p i m f) : p < w.heap.size := by
  obtain ⟨T, h1, _⟩ := h
  exact lt_of_block h1
theorem Tab.new (w : World) (m : Nat) (f : Nat → Nat) : Tab (w.alloc (.cells #[.slice none 0 0, .slice none 0 0, .slice none 0 0, .slice none 0 0, .slice none 0 0, .slice none 0 0, .slice none 0 0, .slice none 0 0, .slice none 0 0, .slice none 0 0, .slice none 0 0, .slice none 0 0, .slice none 0 0, .slice none 0 0, .slice none 0 0, .slice none 0 0] 68)) w.heap.size 0 m f := by
  refine ⟨_, by show (w.heap.push _)[w.heap.size]? = _; rw [Array.getElem?_push, if_pos rfl], rfl, fun v hv => ?_, fun k hk => by omega⟩
  refine ⟨none, 0, 0, ?_⟩
  simpa using hv

theorem Tab.any {w : World} {p i m : Nat} {f : Nat → Nat} (h : Tab w p i m f) (k : Nat) (hk : k < 16) : ∃ v, w.cell? ⟨p, k, none⟩ = some v := by
  obtain ⟨T, h1, h2, _⟩ := h
  refine ⟨T[k], ?_⟩
  rw [cell_of_row w p _ _ _ _ h1]
  simp [h2, hk]
theorem N32.tab {w : World} {p i m : Nat} {f : Nat → Nat} {a : Option Addr} {n c : Nat} {L : List Nat} (h : N32 w a n c L) (hT : Tab w p i m f) (j : Nat) (v : Value) : N32 (w.setCell ⟨p, j, none⟩ v) a n c L := by
  obtain ⟨T, h1, _, h3, _⟩ := hT
  exact h.other h1 h3 _ _
theorem pow_next (x i m : Nat) (hi : 1 ≤ i) : x ^ (i - 1) % m * (x % m) % m = x ^ i % m := by
  obtain ⟨j, rfl⟩ : ∃ j, i = j + 1 := ⟨i - 1, by omega⟩
  rw [Nat.add_sub_cancel, ← Nat.mul_mod, ← Nat.pow_succ]
theorem pow_twice (x e m : Nat) : (x ^ e % m) * (x ^ e % m) % m = x ^ (e * 2) % m := by
  rw [← Nat.mul_mod, Nat.pow_mul, Nat.pow_two]
theorem and_15 (a : Nat) (ha : a < 4294967296) : Go.bits .and .u32 (a : Int) 15 = ((a % 16 : Nat) : Int) := by
  have h1 : (BitVec.ofInt 32 (a : Int)).toNat = a := by
    rw [BitVec.ofInt_natCast, BitVec.toNat_ofNat]; exact Nat.mod_eq_of_lt (by omega)
  have h2 : (BitVec.ofInt 32 (15 : Int)).toNat = 15 := by decide
  show IntKind.u32.wrap ((BitVec.ofInt 32 (a : Int) &&& BitVec.ofInt 32 (15 : Int)).toNat : Int) = _
  rw [BitVec.toNat_and, h1, h2, show (15 : Nat) = 2 ^ 4 - 1 from rfl, Nat.and_two_pow_sub_one_eq_mod, IntKind.wrap_u32]
  omega

set_option maxRecDepth 1000000 in
set_option maxHeartbeats 8000000 in
theorem lPower_any (ax ae am : Option Addr) (nx cx ne ce nm cm : Nat) (X E M : List Nat) (w : World) (hX : N32 w ax nx cx X) (hE : N32 w ae ne ce E) (hM : N32 w am nm cm M) (hnx : nx ≤ 400) (hne : ne ≤ 400) (hnm : nm ≤ 100) (hM1 : 1 < val32 M) :
    Calls Tryz.prog 21 #[.slice ax nx cx, .slice ae ne ce, .slice am nm cm] w fun e w' => RetNum e w' nm (val32 X ^ val32 E % val32 M) ∧ Keeps [] w w' := by
  have hnm1 : 1 ≤ nm := by
    rcases Nat.eq_zero_or_pos nm with h | h
    · have h1 := val32_lt hM.2.2.1
      rw [hM.1, h, Nat.pow_zero] at h1
      omega
    · exact h
  obtain ⟨f, hf⟩ : ∃ f : Nat → Nat, f = fun k => val32 X ^ k % val32 M := ⟨_, rfl⟩
  have hf0 : f 0 = 1 := by rw [hf]; simp [Nat.mod_eq_of_lt hM1]
  have HF := Lib.hid hf; have HF0 := Lib.hid hf0
  have hT0 := Tab.new w nm f
  have hk0 : Keeps [] w ((w.alloc (.cells #[.slice none 0 0, .slice none 0 0, .slice none 0 0, .slice none 0 0, .slice none 0 0, .slice none 0 0, .slice none 0 0, .slice none 0 0, .slice none 0 0, .slice none 0 0, .slice none 0 0, .slice none 0 0, .slice none 0 0, .slice none 0 0, .slice none 0 0, .slice none 0 0] 68)).alloc (.cells #[.int .u32 1] 62)) := ((Keeps.refl _ _).alloc _).alloc _
  have hT1 := hT0.kept ((Keeps.refl [] _).alloc (.cells #[.int .u32 1] 62))
  have hO1 : N32 ((w.alloc (.cells #[.slice none 0 0, .slice none 0 0, .slice none 0 0, .slice none 0 0, .slice none 0 0, .slice none 0 0, .slice none 0 0, .slice none 0 0, .slice none 0 0, .slice none 0 0, .slice none 0 0, .slice none 0 0, .slice none 0 0, .slice none 0 0, .slice none 0 0, .slice none 0 0] 68)).alloc (.cells #[.int .u32 1] 62)) (some ⟨w.heap.size + 1, 0, none⟩) 1 1 [1] := by
    refine ⟨rfl, Nat.le_refl _, fun x hx => by simp at hx; subst hx; decide, fun _ => ⟨_, _, rfl, by simp, fun i hi => ?_⟩⟩
    have hi0 : i = 0 := by simp at hi; omega
    subst hi0
    have h := alloc_cell (w.alloc (.cells #[.slice none 0 0, .slice none 0 0, .slice none 0 0, .slice none 0 0, .slice none 0 0, .slice none 0 0, .slice none 0 0, .slice none 0 0, .slice none 0 0, .slice none 0 0, .slice none 0 0, .slice none 0 0, .slice none 0 0, .slice none 0 0, .slice none 0 0, .slice none 0 0] 68)) #[.int .u32 1] 62 0
    rw [World.size_alloc] at h
    rw [Nat.zero_add, h]; rfl
  have HT1 := Lib.hid hT1; have HK0 := Lib.hid hk0; have HO1 := Lib.hid hO1; have HX := Lib.hid hX; have HE := Lib.hid hE; have HM := Lib.hid hM
  clear hf hf0 hT0 hT1 hk0 hO1 hX hE hM
  go_enter Tryz.func21, Tryz.ntmps21
  go_wp2_with fail
  refine (lRest_any ax am nx cx nm cm X M _ (HX.out.kept HK0.out) (HM.out.kept HK0.out) hnx (by omega) (by omega)).mono ?_
  rintro e w1 ⟨⟨a1, n1, c1, L1, rfl, hL1, hv1, hb1, hn1⟩, hk1⟩
  have ht1 := HT1.out.kept hk1
  obtain ⟨v0, hc0⟩ := ht1.any 0 (by omega)
  have hf0 := ht1.free 0
  have hO1 := HO1.out.kept hk1
  have ht2 := ht1.put (by omega) hO1 (by rw [HF0.out]; simp [val32]) hnm1
  have hL2 := hL1.tab ht1 0 (.slice (some ⟨w.heap.size + 1, 0, none⟩) 1 1)
  have hk2 := (HK0.out.trans1 hk1).setCell (p := ⟨w.heap.size, 0, none⟩) (fun h => absurd h (Nat.lt_irrefl _)) (.slice (some ⟨w.heap.size + 1, 0, none⟩) 1 1)
  have HT2 := Lib.hid ht2; have HL2 := Lib.hid hL2; have HK2 := Lib.hid hk2; have HV1 := Lib.hid hv1
  clear ht1 ht2 hL1 hL2 hk1 hk2 hv1 hO1
  go_wp2_with fail
  go_loopg [8] 15 (fun gn iv wx => ∃ i : Nat, gn = 16 - i ∧ iv = .int .i64 (i : Int) ∧ 1 ≤ i ∧ i ≤ 16 ∧ Hid (Tab wx w.heap.size i nm f) ∧ Hid (N32 wx a1 n1 c1 L1) ∧ Hid (Keeps [] w wx))
  case atStart => exact ⟨1, by omega, by go_num, by omega, by omega, HT2, HL2, HK2⟩
  case round =>
    obtain ⟨i, hgi, rfl, hi1, hi16, hT, hL, hK⟩ := hrel
    by_cases hlt : i < 16
    · have f1 : (i : Int) < 16 := by omega
      have f2 : (0 : Int) ≤ (i : Int) - 1 := by omega
      have f3 : (i : Int) - 1 < 16 := by omega
      have f4 : ((i : Int) - 1).toNat = i - 1 := by omega
      obtain ⟨a2, n2, c2, L3, hc2, hN2, hv2, hn2⟩ := hT.out.get (i - 1) (by omega)
      have HV2 := Lib.hid hv2
      clear hv2
      go_wp2_with fail
      refine (lProduct_any a2 a1 n2 c2 n1 c1 L3 L1 _ hN2 hL.out (by omega) (by omega)).mono ?_
      rintro e w3 ⟨⟨a4, n4, c4, L4, rfl, hL4, hv4, hb4, hn4⟩, hk4⟩
      have HV4 := Lib.hid hv4
      clear hv4
      go_wp2_with fail
      refine (lRest_any a4 am n4 c4 nm cm L4 M _ hL4 ((HM.out.kept hK.out).kept hk4) (by omega) (by omega) (by omega)).mono ?_
      rintro e w5 ⟨⟨a5, n5, c5, L5, rfl, hL5, hv5, hb5, hn5⟩, hk5⟩
      have ht := (hT.out.kept hk4).kept hk5
      obtain ⟨v0', hc0'⟩ := ht.any i hlt
      have hf0' := ht.free i
      have hv5' : val32 L5 = f i := by
        rw [hv5, HV4.out, HV2.out, HV1.out, HF.out]
        exact pow_next _ _ _ hi1
      have ht2 := ht.put hlt hL5 hv5' hn5
      have hl2 := ((hL.out.kept hk4).kept hk5).tab ht i (.slice a5 n5 c5)
      have hk6 := ((hK.out.trans1 hk4).trans1 hk5).setCell (p := ⟨w.heap.size, i, none⟩) (fun h => absurd h (Nat.lt_irrefl _)) (.slice a5 n5 c5)
      have HT3 := Lib.hid ht2; have HL3 := Lib.hid hl2; have HK3 := Lib.hid hk6
      clear ht ht2 hl2 hk6 hv5 hv5' hk4 hk5
      go_wp2_with fail
      go_roundg (16 - (i + 1))
      case measure => omega
      case rel => exact ⟨i + 1, rfl, by go_num, by omega, by omega, HT3, HL3, HK3⟩
    · have hi' : i = 16 := by omega
      subst hi'
      have hblt : Hid (blen (val32 E) ≤ 32 * ne) := by
        have h := val32_lt HE.out.2.2.1
        rw [HE.out.1, W32_pow] at h
        exact Lib.hid (blen_le_of_lt h)
      have hOb : N32 (wr.alloc (.cells #[.int .u32 1] 62)) (some ⟨wr.heap.size, 0, none⟩) 1 1 [1] := by
        refine ⟨rfl, Nat.le_refl _, fun x hx => by simp at hx; subst hx; decide, fun _ => ⟨_, _, rfl, by simp, fun i hi => ?_⟩⟩
        have hi0 : i = 0 := by simp at hi; omega
        subst hi0
        rw [Nat.zero_add, alloc_cell]; rfl
      have hkb := hK.out.alloc (.cells #[.int .u32 1] 62)
      have hTb := hT.out.kept ((Keeps.refl [] _).alloc (.cells #[.int .u32 1] 62))
      have HOB := Lib.hid hOb; have HKB := Lib.hid hkb; have HTB := Lib.hid hTb
      clear hOb hkb hTb hT hL hK HT2 HL2 HK2 HT1 HO1 HK0
      go_wp2_with fail
      refine (lBits_any ae ne ce E _ (HE.out.kept HKB.out) (by omega)).mono ?_
      rintro e w2 ⟨rfl, rfl⟩
      obtain ⟨bl, hbl⟩ : ∃ bl, bl = blen (val32 E) := ⟨_, rfl⟩
      rw [← hbl] at hblt
      rw [← hbl]
      have HBL := Lib.hid hbl
      clear hbl
      have hbn : bl ≤ 12800 := by have := hblt.out; omega
      go_wp2_with fail
      go_loopg [9, 10] ((bl + 3) / 4) (fun gn ov iv wx => ∃ (i n c : Nat) (a : Option Addr) (L : List Nat), gn = i ∧ ov = .slice a n c ∧ iv = .int .i64 ((i : Int) - 1) ∧ i ≤ (bl + 3) / 4 ∧ Hid (N32 wx a n c L) ∧ Hid (val32 L = val32 X ^ (val32 E / 16 ^ i) % val32 M) ∧ Hid (Bare L) ∧ n ≤ nm ∧ Hid (Tab wx w.heap.size 16 nm f) ∧ Hid (Keeps [] w wx))
      case atStart =>
        refine ⟨(bl + 3) / 4, 1, 1, _, [1], rfl, rfl, by go_num, Nat.le_refl _, HOB, Lib.hid ?_, Lib.hid ?_, hnm1, HTB, HKB⟩
        · have h1 : val32 E < 16 ^ ((bl + 3) / 4) := by
            have h2 := lt_blen (val32 E)
            rw [← HBL.out] at h2
            have h3 : (2 : Nat) ^ bl ≤ 2 ^ (4 * ((bl + 3) / 4)) := Nat.pow_le_pow_right (by omega) (by omega)
            rw [Nat.pow_mul] at h3
            exact Nat.lt_of_lt_of_le h2 h3
          rw [Nat.div_eq_of_lt h1, Nat.pow_zero, Nat.mod_eq_of_lt hM1]
          simp [val32]
        · intro k hk
          have : k = 0 := by simp at hk; omega
          subst this
          simp
      case round =>
        obtain ⟨i, n, c, a, L, hgi, rfl, rfl, hib, hL, hv, hb, hn, hT, hK⟩ := hrel
        cases i with
        | zero =>
          have f1 : ¬ (0 : Int) ≤ ((0 : Nat) : Int) - 1 := by omega
          go_wp2_with fail
          go_ret
          refine ⟨⟨a, n, c, L, rfl, hL.out, ?_, hb.out, hn⟩, hK.out⟩
          rw [hv.out, Nat.pow_zero, Nat.div_one]
        | succ i =>
          rw [show ((i + 1 : Nat) : Int) - 1 = (i : Int) by omega]
          have f0 : (0 : Int) ≤ (i : Int) := by omega
          go_upto_region 11 with fail
          iterate 7 go_step
          obtain ⟨e0, he0⟩ : ∃ e0, e0 = val32 E / 16 ^ (i + 1) := ⟨_, rfl⟩
          rw [← he0] at hv
          have HE0 := Lib.hid he0
          clear he0
          go_cut [9] (fun ov wx => ∃ (n' c' : Nat) (a' : Option Addr) (L' : List Nat), ov = .slice a' n' c' ∧ Hid (N32 wx a' n' c' L') ∧ Hid (val32 L' = val32 X ^ (16 * e0) % val32 M) ∧ Hid (Bare L') ∧ n' ≤ nm ∧ Hid (Tab wx w.heap.size 16 nm f) ∧ Hid (Keeps [] w wx))
          case first =>
            go_wp2_with fail
            go_loopg [9, 11] 4 (fun gn ov kv wx => ∃ (k n' c' : Nat) (a' : Option Addr) (L' : List Nat), gn = 4 - k ∧ ov = .slice a' n' c' ∧ kv = .int .i64 (k : Int) ∧ k ≤ 4 ∧ Hid (N32 wx a' n' c' L') ∧ Hid (val32 L' = val32 X ^ (e0 * 2 ^ k) % val32 M) ∧ Hid (Bare L') ∧ n' ≤ nm ∧ Hid (Tab wx w.heap.size 16 nm f) ∧ Hid (Keeps [] w wx))
            case atStart => exact ⟨0, n, c, a, L, by omega, rfl, by go_num, by omega, hL, Lib.hid (by rw [hv.out]; simp), hb, hn, hT, hK⟩
            case round =>
              clear hL hv hb hn hT hK
              obtain ⟨k, n', c', a', L', hgk, rfl, rfl, hk4, hL, hv, hb, hn, hT, hK⟩ := hrel
              obtain ⟨a0, n0, c0, L0, hc0, hN0, hv0, hn0⟩ := hT.out.get 0 (by omega)
              by_cases hlt : k < 4
              · have g1 : (k : Int) < 4 := by omega
                go_wp2_with fail
                refine (lOrder_any a' a0 n' c' n0 c0 L' L0 _ hL.out hN0 (by omega) (by omega)).mono ?_
                rintro e w3 ⟨⟨o, rfl, ho⟩, hk3⟩
                rw [hv0, HF0.out] at ho
                by_cases ho0 : o = 0
                · subst ho0
                  have h1 : val32 L' = 1 := by
                    rcases ho with ⟨_, h⟩ | ⟨h, _⟩ | ⟨_, h⟩
                    · omega
                    · exact h
                    · omega
                  have hres : Hid (val32 L' = val32 X ^ (16 * e0) % val32 M) := by
                    have h2 := hv.out
                    rw [h1] at h2
                    have e2 : val32 X ^ (16 * e0) = (val32 X ^ (e0 * 2 ^ k)) ^ (2 ^ (4 - k)) := by
                      rw [← Nat.pow_mul, Nat.mul_assoc, ← Nat.pow_add, show k + (4 - k) = 4 by omega, Nat.mul_comm]
                    refine Lib.hid ?_
                    rw [h1, e2, Nat.pow_mod, ← h2, Nat.one_pow, Nat.mod_eq_of_lt hM1]
                  have HN := Lib.hid (hL.out.kept hk3); have HTT := Lib.hid (hT.out.kept hk3); have HKK := Lib.hid (hK.out.trans1 hk3)
                  clear ho hk3 hv0 hN0
                  go_wp2_with fail
                  go_meet
                  case rel => exact ⟨n', c', a', L', rfl, HN, hres, hb, hn, HTT, HKK⟩
                · have ho1 : ¬ (o = 0) := ho0
                  have HN := Lib.hid (hL.out.kept hk3); have HTT := Lib.hid (hT.out.kept hk3); have HKK := Lib.hid (hK.out.trans1 hk3)
                  clear ho hk3 hv0 hN0
                  go_wp2_with fail
                  refine (lProduct_any a' a' n' c' n' c' L' L' _ HN.out HN.out (by omega) (by omega)).mono ?_
                  rintro e w4 ⟨⟨a4, n4, c4, L4, rfl, hL4, hv4, hb4, hn4⟩, hk4⟩
                  have HV4 := Lib.hid hv4
                  clear hv4
                  go_wp2_with fail
                  refine (lRest_any a4 am n4 c4 nm cm L4 M _ hL4 ((HM.out.kept HKK.out).kept hk4) (by omega) (by omega) (by omega)).mono ?_
                  rintro e w5 ⟨⟨a5, n5, c5, L5, rfl, hL5, hv5, hb5, hn5⟩, hk5⟩
                  have hv5' : val32 L5 = val32 X ^ (e0 * 2 ^ (k + 1)) % val32 M := by
                    rw [hv5, HV4.out, hv.out, pow_twice, Nat.mul_assoc, ← Nat.pow_succ]
                  have HL5 := Lib.hid hL5; have HV5 := Lib.hid hv5'; have HB5 := Lib.hid hb5; have HT5 := Lib.hid ((HTT.out.kept hk4).kept hk5); have HK5 := Lib.hid ((HKK.out.trans1 hk4).trans1 hk5)
                  clear hL5 hv5 hv5' hb5 hk4 hk5 hL4 hb4
                  go_wp2_with fail
                  go_roundg (4 - (k + 1))
                  case measure => omega
                  case rel => exact ⟨k + 1, n5, c5, a5, L5, rfl, rfl, by go_num, by omega, HL5, HV5, HB5, hn5, HT5, HK5⟩
              · have hk' : k = 4 := by omega
                have hres : Hid (val32 L' = val32 X ^ (16 * e0) % val32 M) := by
                  have h2 := hv.out
                  rw [hk', show e0 * 2 ^ 4 = 16 * e0 by omega] at h2
                  exact Lib.hid h2
                have g1 : ¬ (k : Int) < 4 := by omega
                clear hk' hlt hc0 hN0 hv0
                go_wp2_with fail
                go_meet
                case rel => exact ⟨n', c', a', L', rfl, hL, hres, hb, hn, hT, hK⟩
          case rest =>
            clear hL hv hb hn hT hK
            obtain ⟨n', c', a', L', rfl, hL, hv, hb, hn, hT, hK⟩ := hcut
            have hq : i / 8 < E.length := by
              have := hblt.out
              rw [HE.out.1]
              omega
            obtain ⟨x, hx⟩ := some_get hq
            have hxl := (get_lt HE.out.2.2.1 hx).2
            obtain ⟨bE, oE, rfl, hbE, hcE⟩ := HE.out.2.2.2 (List.ne_nil_of_length_pos (by omega))
            have hcx := Keeps.cell1 (hcE (i / 8) hq) hK.out hbE (by simp)
            rw [List.getElem?_eq_getElem hq] at hx
            simp only [Option.some.injEq] at hx
            rw [hx] at hcx
            obtain ⟨r, hr⟩ : ∃ r, r = i % 8 := ⟨_, rfl⟩
            obtain ⟨q, hqq⟩ : ∃ q, q = i / 8 := ⟨_, rfl⟩
            have hnib : val32 E / 16 ^ i % 16 = x / 2 ^ (4 * r) % 16 := by
              have h := nib_eq (L := E) (q := i / 8) (x := x) (r := i % 8) HE.out.2.2.1 (by rw [List.getElem?_eq_getElem hq, hx]) (by omega)
              rw [show 8 * (i / 8) + i % 8 = i by omega, ← hr] at h
              exact h
            obtain ⟨pt, hpt⟩ : ∃ pt, pt = x / 2 ^ (4 * r) % 16 := ⟨_, rfl⟩
            rw [← hpt] at hnib
            obtain ⟨y, hy⟩ : ∃ y, y = x / 2 ^ (4 * r) := ⟨_, rfl⟩
            have hyl : y < 4294967296 := by rw [hy]; exact Nat.lt_of_le_of_lt (Nat.div_le_self _ _) hxl
            have hand := and_15 y hyl
            rw [hy, ← hpt, show ((x / 2 ^ (4 * r) : Nat) : Int) = (x : Int) / 2 ^ (4 * r) by simp] at hand
            have hexp : Hid (val32 E / 16 ^ i = 16 * e0 + pt) := by
              refine Lib.hid ?_
              rw [HE0.out, Nat.pow_succ, ← Nat.div_div_eq_div_mul, ← hnib]
              exact (Nat.div_add_mod _ _).symm
            have hpl : pt < 16 := by rw [hpt]; exact Nat.mod_lt _ (by omega)
            have g1 : (i : Int) / 8 = (q : Int) := by omega
            have g2 : (i : Int) % 8 = (r : Int) := by omega
            have g3 : ((i : Int) / 8).toNat = q := by omega
            have hrl : r < 8 := by omega
            have hql : q < ne := by rw [hqq, ← HE.out.1]; exact hq
            rw [← hqq] at hcx
            have HR := Lib.hid hr; have HQ := Lib.hid hqq
            clear hx hr hqq hpt hnib hcE hq
            rcases Nat.eq_zero_or_pos pt with hp0 | hp0
            · subst hp0
              have hand' : Go.bits .and .u32 ((x : Int) / 2 ^ (4 * r)) 15 = 0 := hand
              clear hand
              have hres : Hid (val32 L' = val32 X ^ (val32 E / 16 ^ i) % val32 M) := Lib.hid (by rw [hexp.out, Nat.add_zero]; exact hv.out)
              go_wp2_with fail
              go_roundg i
              case measure => omega
              case rel => exact ⟨i, n', c', a', L', rfl, rfl, by go_num, by omega, hL, hres, hb, hn, hT, hK⟩
            · have g4 : (0 : Int) < (pt : Int) := by omega
              obtain ⟨a3, n3, c3, L3, hc3, hN3, hv3, hn3⟩ := hT.out.get pt hpl
              have HV3 := Lib.hid hv3; have HN3 := Lib.hid hN3
              clear hv3 hN3
              go_wp2_with fail
              refine (lProduct_any a' a3 n' c' n3 c3 L' L3 _ hL.out HN3.out (by omega) (by omega)).mono ?_
              rintro e w4 ⟨⟨a4, n4, c4, L4, rfl, hL4, hv4, hb4, hn4⟩, hk4⟩
              have HV4 := Lib.hid hv4
              clear hv4
              go_wp2_with fail
              refine (lRest_any a4 am n4 c4 nm cm L4 M _ hL4 ((HM.out.kept hK.out).kept hk4) (by omega) (by omega) (by omega)).mono ?_
              rintro e w5 ⟨⟨a5, n5, c5, L5, rfl, hL5, hv5, hb5, hn5⟩, hk5⟩
              have hv5' : val32 L5 = val32 X ^ (val32 E / 16 ^ i) % val32 M := by
                rw [hv5, HV4.out, hv.out, HV3.out, HF.out, ← Nat.mul_mod, ← Nat.pow_add, hexp.out]
              have HL5 := Lib.hid hL5; have HV5 := Lib.hid hv5'; have HB5 := Lib.hid hb5; have HT5 := Lib.hid ((hT.out.kept hk4).kept hk5); have HK5 := Lib.hid ((hK.out.trans1 hk4).trans1 hk5)
              clear hL5 hv5 hv5' hb5 hk4 hk5 hL4 hb4
              go_wp2_with fail
              go_roundg i
              case measure => omega
              case rel => exact ⟨i, n5, c5, a5, L5, rfl, rfl, by go_num, by omega, HL5, HV5, HB5, hn5, HT5, HK5⟩

end Go.Proofs.YtnfjmngchapdnaaGreatDoor
