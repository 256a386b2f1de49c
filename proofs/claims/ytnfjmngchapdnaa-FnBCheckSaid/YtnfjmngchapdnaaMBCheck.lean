import Derived.Test.YtnfjmngchapdnaaMKeyOf
/- impl.BCheck, by each way. -/
namespace Go.Proofs.Ytnfjmngchapdnaa
open Go.RowKit

theorem set8 {w : World} {B : Nat} {t : TypeId} {c0 c1 c2 c3 c4 c5 c6 c7 v0 v1 v2 v3 v4 v5 v6 v7 : Value} (h : w.heap[B]? = some (.cells #[c0, c1, c2, c3, c4, c5, c6, c7] t (0, 0))) :
    ((((((((w.setCell ⟨B, 0, none⟩ v0).setCell ⟨B, 1, none⟩ v1).setCell ⟨B, 2, none⟩ v2).setCell ⟨B, 3, none⟩ v3).setCell ⟨B, 4, none⟩ v4).setCell ⟨B, 5, none⟩ v5).setCell ⟨B, 6, none⟩ v6).setCell ⟨B, 7, none⟩ v7).heap[B]? = some (.cells #[v0, v1, v2, v3, v4, v5, v6, v7] t (0, 0)) := by
  refine MHdr.modify (C := #[v0, v1, v2, v3, v4, v5, v6, c7]) ?_ (by simp)
  refine MHdr.modify (C := #[v0, v1, v2, v3, v4, v5, c6, c7]) ?_ (by simp)
  refine MHdr.modify (C := #[v0, v1, v2, v3, v4, c5, c6, c7]) ?_ (by simp)
  refine MHdr.modify (C := #[v0, v1, v2, v3, c4, c5, c6, c7]) ?_ (by simp)
  refine MHdr.modify (C := #[v0, v1, v2, c3, c4, c5, c6, c7]) ?_ (by simp)
  refine MHdr.modify (C := #[v0, v1, c2, c3, c4, c5, c6, c7]) ?_ (by simp)
  refine MHdr.modify (C := #[v0, c1, c2, c3, c4, c5, c6, c7]) ?_ (by simp)
  exact MHdr.modify (C := #[c0, c1, c2, c3, c4, c5, c6, c7]) h (by simp)
theorem set8_other {w : World} {B x : Nat} {o : Obj} {v0 v1 v2 v3 v4 v5 v6 v7 : Value} (h : w.heap[x]? = some o) (hx : x ≠ B) :
    ((((((((w.setCell ⟨B, 0, none⟩ v0).setCell ⟨B, 1, none⟩ v1).setCell ⟨B, 2, none⟩ v2).setCell ⟨B, 3, none⟩ v3).setCell ⟨B, 4, none⟩ v4).setCell ⟨B, 5, none⟩ v5).setCell ⟨B, 6, none⟩ v6).setCell ⟨B, 7, none⟩ v7).heap[x]? = some o := by
  simp only [Below.heap_setCell _ _ _ _ (show x ≠ (⟨B, 0, none⟩ : Addr).block from hx), Below.heap_setCell _ _ _ _ (show x ≠ (⟨B, 1, none⟩ : Addr).block from hx), Below.heap_setCell _ _ _ _ (show x ≠ (⟨B, 2, none⟩ : Addr).block from hx), Below.heap_setCell _ _ _ _ (show x ≠ (⟨B, 3, none⟩ : Addr).block from hx), Below.heap_setCell _ _ _ _ (show x ≠ (⟨B, 4, none⟩ : Addr).block from hx), Below.heap_setCell _ _ _ _ (show x ≠ (⟨B, 5, none⟩ : Addr).block from hx), Below.heap_setCell _ _ _ _ (show x ≠ (⟨B, 6, none⟩ : Addr).block from hx), Below.heap_setCell _ _ _ _ (show x ≠ (⟨B, 7, none⟩ : Addr).block from hx)]
  exact h
theorem set8_keeps {S : List Nat} {w0 w : World} {B : Nat} {v0 v1 v2 v3 v4 v5 v6 v7 : Value} (h : Keeps S w0 w) (hB : B < w0.heap.size → B ∈ S) : Keeps S w0 ((((((((w.setCell ⟨B, 0, none⟩ v0).setCell ⟨B, 1, none⟩ v1).setCell ⟨B, 2, none⟩ v2).setCell ⟨B, 3, none⟩ v3).setCell ⟨B, 4, none⟩ v4).setCell ⟨B, 5, none⟩ v5).setCell ⟨B, 6, none⟩ v6).setCell ⟨B, 7, none⟩ v7) :=
  (((((((h.setCell hB _).setCell hB _).setCell hB _).setCell hB _).setCell hB _).setCell hB _).setCell hB _).setCell hB _
theorem BAt.ne_cells {w : World} {b o B : Nat} {L : List Nat} {C : Array Value} {t : TypeId} {z : Nat × Nat} (h : BAt w b o L) (hL : L ≠ []) (hb : w.heap[B]? = some (.cells C t z)) (hC : ∀ (j : Nat) (y : Int), C[j]? ≠ some (.int .u8 y)) : b ≠ B := by
  rintro rfl
  have hl : 0 < L.length := List.length_pos_iff.2 hL
  have h1 := h 0 hl
  have h2 : w.cell? ⟨b, o + 0, none⟩ = C[o + 0]? := by simp [World.cell?, hb]
  rw [h2] at h1
  exact hC _ _ h1
theorem SlV.keeps2 {w w' : World} {v : Value} {x B B' : Nat} {C C' : Array Value} {t t' : TypeId} {z z' : Nat × Nat} (h : SlV w v x) (hk : Keeps [B, B'] w w') (hb : w.heap[B]? = some (.cells C t z)) (hC : ∀ (j : Nat) (y : Int), C[j]? ≠ some (.int .u8 y))
    (hb' : w.heap[B']? = some (.cells C' t' z')) (hC' : ∀ (j : Nat) (y : Int), C'[j]? ≠ some (.int .u8 y)) : SlV w' v x := by
  obtain ⟨a, n, c, L, h1, h2, h3, h4⟩ := h
  refine ⟨a, n, c, L, h1, h2.keeps' hk (fun b o hL hB => ?_), h3, h4⟩
  simp [hB.ne_cells hL hb hC, hB.ne_cells hL hb' hC']
theorem no_u8 : ∀ (j : Nat) (y : Int), (#[.slice none 0 0, .int .i64 0, .slice none 0 0, .slice none 0 0, .slice none 0 0, .slice none 0 0, .slice none 0 0, .slice none 0 0] : Array Value)[j]? ≠ some (.int .u8 y) := by
  intro j y h
  have h2 : j < 8 := (Array.getElem?_eq_some_iff.1 h).1
  obtain rfl | rfl | rfl | rfl | rfl | rfl | rfl | rfl : j = 0 ∨ j = 1 ∨ j = 2 ∨ j = 3 ∨ j = 4 ∨ j = 5 ∨ j = 6 ∨ j = 7 := by omega
  all_goals simp at h
theorem no_u8b (b : Bool) : ∀ (j : Nat) (y : Int), (#[.bool b] : Array Value)[j]? ≠ some (.int .u8 y) := by
  intro j y h
  have h2 : j < 1 := (Array.getElem?_eq_some_iff.1 h).1
  obtain rfl : j = 0 := by omega
  simp at h

def CheckR (e : Ending) (w' : World) (ok : Prop) (N : Nat) (E : Int) (D P Q DP DQ QI : Nat) : Prop :=
  (ok ∧ ∃ v1 v2 v3 v4 v5 v6 v7, e = .returned (.tuple #[.agg #[v1, .int .i64 E, v2, v3, v4, v5, v6, v7], .bool true]) ∧ SlV w' v1 N ∧ SlV w' v2 D ∧ SlV w' v3 P ∧ SlV w' v4 Q ∧ SlV w' v5 DP ∧ SlV w' v6 DQ ∧ SlV w' v7 QI) ∨
    (¬ ok ∧ e = .returned (.tuple #[.agg #[.slice none 0 0, .int .i64 0, .slice none 0 0, .slice none 0 0, .slice none 0 0, .slice none 0 0, .slice none 0 0, .slice none 0 0], .bool false]))
def CheckB (e : Ending) (w' : World) (N : Nat) (E : Int) (D : Nat) : Prop :=
  (BareOk N D E ∧ ∃ v1 v2, e = .returned (.tuple #[.agg #[v1, .int .i64 E, v2, .slice none 0 0, .slice none 0 0, .slice none 0 0, .slice none 0 0, .slice none 0 0], .bool true]) ∧ SlV w' v1 N ∧ SlV w' v2 D) ∨
    (¬ BareOk N D E ∧ e = .returned (.tuple #[.agg #[.slice none 0 0, .int .i64 0, .slice none 0 0, .slice none 0 0, .slice none 0 0, .slice none 0 0, .slice none 0 0, .slice none 0 0], .bool false]))

set_option maxRecDepth 1000000 in
set_option maxHeartbeats 8000000 in
theorem bCheck_primes (k : KA) (w : World) (hk : k.is w) (ht : k.tidy) :
    Calls Try.prog 11 #[.agg #[.slice k.a1 k.m1 k.c1, .int .i64 k.E, .slice k.a2 k.m2 k.c2, .slice k.a3 k.m3 k.c3, .slice k.a4 k.m4 k.c4, .slice k.a5 k.m5 k.c5, .slice k.a6 k.m6 k.c6, .slice k.a7 k.m7 k.c7], .int .i64 0] w fun e w' =>
      CheckR e w' (PrimesOk (bval k.L1) k.E (bval k.L2) (bval k.L3) (bval k.L4)) (bval k.L1) k.E (bval k.L2) (bval k.L3) (bval k.L4) (bval k.L2 % (bval k.L3 - 1)) (bval k.L2 % (bval k.L4 - 1)) (bval k.L4 ^ (bval k.L3 - 2) % bval k.L3) ∧ Keeps [] w w' := by
  have hk0 : Keeps [] w (((w.alloc (.cells #[.slice k.a1 k.m1 k.c1, .int .i64 k.E, .slice k.a2 k.m2 k.c2, .slice k.a3 k.m3 k.c3, .slice k.a4 k.m4 k.c4, .slice k.a5 k.m5 k.c5, .slice k.a6 k.m6 k.c6, .slice k.a7 k.m7 k.c7] 24)).alloc (.cells #[.slice none 0 0, .int .i64 0, .slice none 0 0, .slice none 0 0, .slice none 0 0, .slice none 0 0, .slice none 0 0, .slice none 0 0] 24)).alloc (.cells #[.bool false] 4)) := (((Keeps.refl _ _).alloc _).alloc _).alloc _
  have hb0 : (((w.alloc (.cells #[.slice k.a1 k.m1 k.c1, .int .i64 k.E, .slice k.a2 k.m2 k.c2, .slice k.a3 k.m3 k.c3, .slice k.a4 k.m4 k.c4, .slice k.a5 k.m5 k.c5, .slice k.a6 k.m6 k.c6, .slice k.a7 k.m7 k.c7] 24)).alloc (.cells #[.slice none 0 0, .int .i64 0, .slice none 0 0, .slice none 0 0, .slice none 0 0, .slice none 0 0, .slice none 0 0, .slice none 0 0] 24)).alloc (.cells #[.bool false] 4)).heap[w.heap.size + 1]? = some (.cells #[.slice none 0 0, .int .i64 0, .slice none 0 0, .slice none 0 0, .slice none 0 0, .slice none 0 0, .slice none 0 0, .slice none 0 0] 24 (0, 0)) := by
    show (((w.heap.push _).push _).push _)[w.heap.size + 1]? = _
    rw [Array.getElem?_push, if_neg (by simp), Array.getElem?_push, if_pos (by simp)]
  have hd0 : (((w.alloc (.cells #[.slice k.a1 k.m1 k.c1, .int .i64 k.E, .slice k.a2 k.m2 k.c2, .slice k.a3 k.m3 k.c3, .slice k.a4 k.m4 k.c4, .slice k.a5 k.m5 k.c5, .slice k.a6 k.m6 k.c6, .slice k.a7 k.m7 k.c7] 24)).alloc (.cells #[.slice none 0 0, .int .i64 0, .slice none 0 0, .slice none 0 0, .slice none 0 0, .slice none 0 0, .slice none 0 0, .slice none 0 0] 24)).alloc (.cells #[.bool false] 4)).heap[w.heap.size + 1 + 1]? = some (.cells #[.bool false] 4 (0, 0)) := by
    show (((w.heap.push _).push _).push _)[w.heap.size + 1 + 1]? = _
    rw [Array.getElem?_push, if_pos (by simp)]
  have HK := Lib.hid hk0; have HB := Lib.hid hb0; have HD := Lib.hid hd0
  clear hk0 hb0 hd0
  go_enter_defers Try.func11, Try.ntmps11
  go_wp2_with fail
  refine (keyOf_primes k _ (hk.kept HK.out) ht).mono ?_
  rintro e w1 ⟨⟨hok, Z, rfl, hI, hh⟩ | ⟨hno, rfl⟩, h1⟩
  · have HOK := Lib.hid hok
    have hZD : Z.D ≤ Z.N.v := by rw [hh.d, hh.n]; exact Nat.le_of_lt hok.2.lt
    have hZQ : Z.QI ≤ Z.P.v := by rw [hh.i, hh.p]; exact Nat.le_of_lt hok.2.qip
    have HH := Lib.hid hh
    clear hok hh
    go_wp2_with fail
    refine (export_any Z _ hI hZD hZQ).mono ?_
    rintro e w2 ⟨⟨v1, v2, v3, v4, v5, v6, v7, rfl, g1, g2, g3, g4, g5, g6, g7⟩, h2⟩
    rw [HH.out.n] at g1; rw [HH.out.d] at g2; rw [HH.out.p] at g3; rw [HH.out.q] at g4; rw [HH.out.dp] at g5; rw [HH.out.dq] at g6; rw [HH.out.i] at g7
    have hze := HH.out.e
    rw [hze]
    clear hze
    have G := Lib.hid (And.intro g1 (And.intro g2 (And.intro g3 (And.intro g4 (And.intro g5 (And.intro g6 g7))))))
    clear g1 g2 g3 g4 g5 g6 g7
    have hk12 := h1.trans1 h2
    have hb2 := blk_keeps HB.out hk12 (by simp)
    have hd2 := blk_keeps HD.out hk12 (by simp)
    have HKK := Lib.hid (HK.out.trans1 hk12)
    have dd := cell_of_one hd2
    have df := free_of_one hd2
    obtain ⟨k0, k1, k2, k3, k4, k5, k6, k7⟩ := key8 hb2
    have ff : ∀ j, w2.frozen? ⟨w.heap.size + 1, j, none⟩ = false := fun j => by simp [World.frozen?, hb2]
    have e0 := ff 0; have e1 := ff 1; have e2 := ff 2; have e3 := ff 3; have e4 := ff 4; have e5 := ff 5; have e6 := ff 6; have e7 := ff 7
    have HB2 := Lib.hid hb2; have HD2 := Lib.hid hd2
    clear ff hb2 hd2 h1 h2 hk12
    obtain ⟨a1, n1, c1, _, rfl, _⟩ := G.out.1
    obtain ⟨a2, n2, c2, _, rfl, _⟩ := G.out.2.1
    obtain ⟨a3, n3, c3, _, rfl, _⟩ := G.out.2.2.1
    obtain ⟨a4, n4, c4, _, rfl, _⟩ := G.out.2.2.2.1
    obtain ⟨a5, n5, c5, _, rfl, _⟩ := G.out.2.2.2.2.1
    obtain ⟨a6, n6, c6, _, rfl, _⟩ := G.out.2.2.2.2.2.1
    obtain ⟨a7, n7, c7, _, rfl, _⟩ := G.out.2.2.2.2.2.2
    have hbS : ((((((((((((((((w2.setCell ⟨w.heap.size + 1, 0, none⟩ (.slice a1 n1 c1)).setCell ⟨w.heap.size + 1, 1, none⟩ (.int .i64 k.E)).setCell ⟨w.heap.size + 1, 2, none⟩ (.slice a2 n2 c2)).setCell ⟨w.heap.size + 1, 3, none⟩ (.slice a3 n3 c3)).setCell ⟨w.heap.size + 1, 4, none⟩ (.slice a4 n4 c4)).setCell ⟨w.heap.size + 1, 5, none⟩ (.slice a5 n5 c5)).setCell ⟨w.heap.size + 1, 6, none⟩ (.slice a6 n6 c6)).setCell ⟨w.heap.size + 1, 7, none⟩ (.slice a7 n7 c7)).setCell ⟨w.heap.size + 1, 0, none⟩ (.slice a1 n1 c1)).setCell ⟨w.heap.size + 1, 1, none⟩ (.int .i64 k.E)).setCell ⟨w.heap.size + 1, 2, none⟩ (.slice a2 n2 c2)).setCell ⟨w.heap.size + 1, 3, none⟩ (.slice a3 n3 c3)).setCell ⟨w.heap.size + 1, 4, none⟩ (.slice a4 n4 c4)).setCell ⟨w.heap.size + 1, 5, none⟩ (.slice a5 n5 c5)).setCell ⟨w.heap.size + 1, 6, none⟩ (.slice a6 n6 c6)).setCell ⟨w.heap.size + 1, 7, none⟩ (.slice a7 n7 c7)).heap[w.heap.size + 1]? = some (.cells #[.slice a1 n1 c1, .int .i64 k.E, .slice a2 n2 c2, .slice a3 n3 c3, .slice a4 n4 c4, .slice a5 n5 c5, .slice a6 n6 c6, .slice a7 n7 c7] 24 (0, 0)) := set8 (set8 HB2.out)
    have hdS : ((((((((((((((((w2.setCell ⟨w.heap.size + 1, 0, none⟩ (.slice a1 n1 c1)).setCell ⟨w.heap.size + 1, 1, none⟩ (.int .i64 k.E)).setCell ⟨w.heap.size + 1, 2, none⟩ (.slice a2 n2 c2)).setCell ⟨w.heap.size + 1, 3, none⟩ (.slice a3 n3 c3)).setCell ⟨w.heap.size + 1, 4, none⟩ (.slice a4 n4 c4)).setCell ⟨w.heap.size + 1, 5, none⟩ (.slice a5 n5 c5)).setCell ⟨w.heap.size + 1, 6, none⟩ (.slice a6 n6 c6)).setCell ⟨w.heap.size + 1, 7, none⟩ (.slice a7 n7 c7)).setCell ⟨w.heap.size + 1, 0, none⟩ (.slice a1 n1 c1)).setCell ⟨w.heap.size + 1, 1, none⟩ (.int .i64 k.E)).setCell ⟨w.heap.size + 1, 2, none⟩ (.slice a2 n2 c2)).setCell ⟨w.heap.size + 1, 3, none⟩ (.slice a3 n3 c3)).setCell ⟨w.heap.size + 1, 4, none⟩ (.slice a4 n4 c4)).setCell ⟨w.heap.size + 1, 5, none⟩ (.slice a5 n5 c5)).setCell ⟨w.heap.size + 1, 6, none⟩ (.slice a6 n6 c6)).setCell ⟨w.heap.size + 1, 7, none⟩ (.slice a7 n7 c7)).heap[w.heap.size + 1 + 1]? = some (.cells #[.bool false] 4 (0, 0)) := set8_other (set8_other HD2.out (by omega)) (by omega)
    have hkS : Keeps [w.heap.size + 1, w.heap.size + 1 + 1] w2 ((((((((((((((((w2.setCell ⟨w.heap.size + 1, 0, none⟩ (.slice a1 n1 c1)).setCell ⟨w.heap.size + 1, 1, none⟩ (.int .i64 k.E)).setCell ⟨w.heap.size + 1, 2, none⟩ (.slice a2 n2 c2)).setCell ⟨w.heap.size + 1, 3, none⟩ (.slice a3 n3 c3)).setCell ⟨w.heap.size + 1, 4, none⟩ (.slice a4 n4 c4)).setCell ⟨w.heap.size + 1, 5, none⟩ (.slice a5 n5 c5)).setCell ⟨w.heap.size + 1, 6, none⟩ (.slice a6 n6 c6)).setCell ⟨w.heap.size + 1, 7, none⟩ (.slice a7 n7 c7)).setCell ⟨w.heap.size + 1, 0, none⟩ (.slice a1 n1 c1)).setCell ⟨w.heap.size + 1, 1, none⟩ (.int .i64 k.E)).setCell ⟨w.heap.size + 1, 2, none⟩ (.slice a2 n2 c2)).setCell ⟨w.heap.size + 1, 3, none⟩ (.slice a3 n3 c3)).setCell ⟨w.heap.size + 1, 4, none⟩ (.slice a4 n4 c4)).setCell ⟨w.heap.size + 1, 5, none⟩ (.slice a5 n5 c5)).setCell ⟨w.heap.size + 1, 6, none⟩ (.slice a6 n6 c6)).setCell ⟨w.heap.size + 1, 7, none⟩ (.slice a7 n7 c7)) := set8_keeps (set8_keeps (Keeps.refl _ _) (by simp)) (by simp)
    have hkT : Keeps [] w ((((((((((((((((w2.setCell ⟨w.heap.size + 1, 0, none⟩ (.slice a1 n1 c1)).setCell ⟨w.heap.size + 1, 1, none⟩ (.int .i64 k.E)).setCell ⟨w.heap.size + 1, 2, none⟩ (.slice a2 n2 c2)).setCell ⟨w.heap.size + 1, 3, none⟩ (.slice a3 n3 c3)).setCell ⟨w.heap.size + 1, 4, none⟩ (.slice a4 n4 c4)).setCell ⟨w.heap.size + 1, 5, none⟩ (.slice a5 n5 c5)).setCell ⟨w.heap.size + 1, 6, none⟩ (.slice a6 n6 c6)).setCell ⟨w.heap.size + 1, 7, none⟩ (.slice a7 n7 c7)).setCell ⟨w.heap.size + 1, 0, none⟩ (.slice a1 n1 c1)).setCell ⟨w.heap.size + 1, 1, none⟩ (.int .i64 k.E)).setCell ⟨w.heap.size + 1, 2, none⟩ (.slice a2 n2 c2)).setCell ⟨w.heap.size + 1, 3, none⟩ (.slice a3 n3 c3)).setCell ⟨w.heap.size + 1, 4, none⟩ (.slice a4 n4 c4)).setCell ⟨w.heap.size + 1, 5, none⟩ (.slice a5 n5 c5)).setCell ⟨w.heap.size + 1, 6, none⟩ (.slice a6 n6 c6)).setCell ⟨w.heap.size + 1, 7, none⟩ (.slice a7 n7 c7)) := set8_keeps (set8_keeps HKK.out (by omega)) (by omega)
    have hbF : (((((((((((((((((w2.setCell ⟨w.heap.size + 1, 0, none⟩ (.slice a1 n1 c1)).setCell ⟨w.heap.size + 1, 1, none⟩ (.int .i64 k.E)).setCell ⟨w.heap.size + 1, 2, none⟩ (.slice a2 n2 c2)).setCell ⟨w.heap.size + 1, 3, none⟩ (.slice a3 n3 c3)).setCell ⟨w.heap.size + 1, 4, none⟩ (.slice a4 n4 c4)).setCell ⟨w.heap.size + 1, 5, none⟩ (.slice a5 n5 c5)).setCell ⟨w.heap.size + 1, 6, none⟩ (.slice a6 n6 c6)).setCell ⟨w.heap.size + 1, 7, none⟩ (.slice a7 n7 c7)).setCell ⟨w.heap.size + 1, 0, none⟩ (.slice a1 n1 c1)).setCell ⟨w.heap.size + 1, 1, none⟩ (.int .i64 k.E)).setCell ⟨w.heap.size + 1, 2, none⟩ (.slice a2 n2 c2)).setCell ⟨w.heap.size + 1, 3, none⟩ (.slice a3 n3 c3)).setCell ⟨w.heap.size + 1, 4, none⟩ (.slice a4 n4 c4)).setCell ⟨w.heap.size + 1, 5, none⟩ (.slice a5 n5 c5)).setCell ⟨w.heap.size + 1, 6, none⟩ (.slice a6 n6 c6)).setCell ⟨w.heap.size + 1, 7, none⟩ (.slice a7 n7 c7)).setCell ⟨w.heap.size + 1 + 1, 0, none⟩ (.bool true)).heap[w.heap.size + 1]? = some (.cells #[.slice a1 n1 c1, .int .i64 k.E, .slice a2 n2 c2, .slice a3 n3 c3, .slice a4 n4 c4, .slice a5 n5 c5, .slice a6 n6 c6, .slice a7 n7 c7] 24 (0, 0)) := (Below.heap_setCell _ _ _ _ (by simp)).trans hbS
    have hdF : (((((((((((((((((w2.setCell ⟨w.heap.size + 1, 0, none⟩ (.slice a1 n1 c1)).setCell ⟨w.heap.size + 1, 1, none⟩ (.int .i64 k.E)).setCell ⟨w.heap.size + 1, 2, none⟩ (.slice a2 n2 c2)).setCell ⟨w.heap.size + 1, 3, none⟩ (.slice a3 n3 c3)).setCell ⟨w.heap.size + 1, 4, none⟩ (.slice a4 n4 c4)).setCell ⟨w.heap.size + 1, 5, none⟩ (.slice a5 n5 c5)).setCell ⟨w.heap.size + 1, 6, none⟩ (.slice a6 n6 c6)).setCell ⟨w.heap.size + 1, 7, none⟩ (.slice a7 n7 c7)).setCell ⟨w.heap.size + 1, 0, none⟩ (.slice a1 n1 c1)).setCell ⟨w.heap.size + 1, 1, none⟩ (.int .i64 k.E)).setCell ⟨w.heap.size + 1, 2, none⟩ (.slice a2 n2 c2)).setCell ⟨w.heap.size + 1, 3, none⟩ (.slice a3 n3 c3)).setCell ⟨w.heap.size + 1, 4, none⟩ (.slice a4 n4 c4)).setCell ⟨w.heap.size + 1, 5, none⟩ (.slice a5 n5 c5)).setCell ⟨w.heap.size + 1, 6, none⟩ (.slice a6 n6 c6)).setCell ⟨w.heap.size + 1, 7, none⟩ (.slice a7 n7 c7)).setCell ⟨w.heap.size + 1 + 1, 0, none⟩ (.bool true)).heap[w.heap.size + 1 + 1]? = some (.cells #[.bool true] 4 (0, 0)) := one_setCell hdS
    have hkF : Keeps [w.heap.size + 1, w.heap.size + 1 + 1] w2 (((((((((((((((((w2.setCell ⟨w.heap.size + 1, 0, none⟩ (.slice a1 n1 c1)).setCell ⟨w.heap.size + 1, 1, none⟩ (.int .i64 k.E)).setCell ⟨w.heap.size + 1, 2, none⟩ (.slice a2 n2 c2)).setCell ⟨w.heap.size + 1, 3, none⟩ (.slice a3 n3 c3)).setCell ⟨w.heap.size + 1, 4, none⟩ (.slice a4 n4 c4)).setCell ⟨w.heap.size + 1, 5, none⟩ (.slice a5 n5 c5)).setCell ⟨w.heap.size + 1, 6, none⟩ (.slice a6 n6 c6)).setCell ⟨w.heap.size + 1, 7, none⟩ (.slice a7 n7 c7)).setCell ⟨w.heap.size + 1, 0, none⟩ (.slice a1 n1 c1)).setCell ⟨w.heap.size + 1, 1, none⟩ (.int .i64 k.E)).setCell ⟨w.heap.size + 1, 2, none⟩ (.slice a2 n2 c2)).setCell ⟨w.heap.size + 1, 3, none⟩ (.slice a3 n3 c3)).setCell ⟨w.heap.size + 1, 4, none⟩ (.slice a4 n4 c4)).setCell ⟨w.heap.size + 1, 5, none⟩ (.slice a5 n5 c5)).setCell ⟨w.heap.size + 1, 6, none⟩ (.slice a6 n6 c6)).setCell ⟨w.heap.size + 1, 7, none⟩ (.slice a7 n7 c7)).setCell ⟨w.heap.size + 1 + 1, 0, none⟩ (.bool true)) := hkS.setCell (by simp) _
    have hkU : Keeps [] w (((((((((((((((((w2.setCell ⟨w.heap.size + 1, 0, none⟩ (.slice a1 n1 c1)).setCell ⟨w.heap.size + 1, 1, none⟩ (.int .i64 k.E)).setCell ⟨w.heap.size + 1, 2, none⟩ (.slice a2 n2 c2)).setCell ⟨w.heap.size + 1, 3, none⟩ (.slice a3 n3 c3)).setCell ⟨w.heap.size + 1, 4, none⟩ (.slice a4 n4 c4)).setCell ⟨w.heap.size + 1, 5, none⟩ (.slice a5 n5 c5)).setCell ⟨w.heap.size + 1, 6, none⟩ (.slice a6 n6 c6)).setCell ⟨w.heap.size + 1, 7, none⟩ (.slice a7 n7 c7)).setCell ⟨w.heap.size + 1, 0, none⟩ (.slice a1 n1 c1)).setCell ⟨w.heap.size + 1, 1, none⟩ (.int .i64 k.E)).setCell ⟨w.heap.size + 1, 2, none⟩ (.slice a2 n2 c2)).setCell ⟨w.heap.size + 1, 3, none⟩ (.slice a3 n3 c3)).setCell ⟨w.heap.size + 1, 4, none⟩ (.slice a4 n4 c4)).setCell ⟨w.heap.size + 1, 5, none⟩ (.slice a5 n5 c5)).setCell ⟨w.heap.size + 1, 6, none⟩ (.slice a6 n6 c6)).setCell ⟨w.heap.size + 1, 7, none⟩ (.slice a7 n7 c7)).setCell ⟨w.heap.size + 1 + 1, 0, none⟩ (.bool true)) := hkT.setCell (by simp; omega) _
    have HBF := Lib.hid hbF; have HDF := Lib.hid hdF; have HKF := Lib.hid hkF; have HKU := Lib.hid hkU
    clear hbS hdS hkS hkT hbF hdF hkF hkU
    go_wp2
    refine leaves_cons (f := 13) (args := #[.pointer (some ⟨w.heap.size + 1 + 1, 0, none⟩)]) (by simp) (by simp [go_sem]) ?_
    refine (kept_idle ⟨w.heap.size + 1 + 1, 0, none⟩ _).mono ?_
    rintro e u' w'' ⟨rfl, rfl, rfl⟩
    clear dd df k0 k1 k2 k3 k4 k5 k6 k7 e0 e1 e2 e3 e4 e5 e6 e7
    obtain ⟨wF, hwF⟩ : ∃ wF, wF = (((((((((((((((((w2.setCell ⟨w.heap.size + 1, 0, none⟩ (.slice a1 n1 c1)).setCell ⟨w.heap.size + 1, 1, none⟩ (.int .i64 k.E)).setCell ⟨w.heap.size + 1, 2, none⟩ (.slice a2 n2 c2)).setCell ⟨w.heap.size + 1, 3, none⟩ (.slice a3 n3 c3)).setCell ⟨w.heap.size + 1, 4, none⟩ (.slice a4 n4 c4)).setCell ⟨w.heap.size + 1, 5, none⟩ (.slice a5 n5 c5)).setCell ⟨w.heap.size + 1, 6, none⟩ (.slice a6 n6 c6)).setCell ⟨w.heap.size + 1, 7, none⟩ (.slice a7 n7 c7)).setCell ⟨w.heap.size + 1, 0, none⟩ (.slice a1 n1 c1)).setCell ⟨w.heap.size + 1, 1, none⟩ (.int .i64 k.E)).setCell ⟨w.heap.size + 1, 2, none⟩ (.slice a2 n2 c2)).setCell ⟨w.heap.size + 1, 3, none⟩ (.slice a3 n3 c3)).setCell ⟨w.heap.size + 1, 4, none⟩ (.slice a4 n4 c4)).setCell ⟨w.heap.size + 1, 5, none⟩ (.slice a5 n5 c5)).setCell ⟨w.heap.size + 1, 6, none⟩ (.slice a6 n6 c6)).setCell ⟨w.heap.size + 1, 7, none⟩ (.slice a7 n7 c7)).setCell ⟨w.heap.size + 1 + 1, 0, none⟩ (.bool true)) := ⟨_, rfl⟩
    rw [← hwF] at HBF HDF HKF HKU
    rw [← hwF]
    clear hwF
    obtain ⟨k0, k1, k2, k3, k4, k5, k6, k7⟩ := key8 HBF.out
    have dd := cell_of_one HDF.out
    simp [Leaves, settle, results, Try.results11, go_sem, dd, k0, k1, k2, k3, k4, k5, k6, k7]
    exact ⟨.inl ⟨HOK.out, _, _, _, _, _, _, _, rfl, G.out.1.keeps2 HKF.out HB2.out no_u8 HD2.out (no_u8b _), G.out.2.1.keeps2 HKF.out HB2.out no_u8 HD2.out (no_u8b _), G.out.2.2.1.keeps2 HKF.out HB2.out no_u8 HD2.out (no_u8b _), G.out.2.2.2.1.keeps2 HKF.out HB2.out no_u8 HD2.out (no_u8b _), G.out.2.2.2.2.1.keeps2 HKF.out HB2.out no_u8 HD2.out (no_u8b _), G.out.2.2.2.2.2.1.keeps2 HKF.out HB2.out no_u8 HD2.out (no_u8b _), G.out.2.2.2.2.2.2.keeps2 HKF.out HB2.out no_u8 HD2.out (no_u8b _)⟩, HKU.out⟩
  · have hb2 := blk_keeps HB.out h1 (by simp)
    have hd2 := blk_keeps HD.out h1 (by simp)
    have HKK := Lib.hid (HK.out.trans1 h1)
    have dd := cell_of_one hd2
    have df := free_of_one hd2
    obtain ⟨k0, k1, k2, k3, k4, k5, k6, k7⟩ := key8 hb2
    have ff : ∀ j, w1.frozen? ⟨w.heap.size + 1, j, none⟩ = false := fun j => by simp [World.frozen?, hb2]
    have e0 := ff 0; have e1 := ff 1; have e2 := ff 2; have e3 := ff 3; have e4 := ff 4; have e5 := ff 5; have e6 := ff 6; have e7 := ff 7
    have hbS : ((((((((w1.setCell ⟨w.heap.size + 1, 0, none⟩ (.slice none 0 0)).setCell ⟨w.heap.size + 1, 1, none⟩ (.int .i64 0)).setCell ⟨w.heap.size + 1, 2, none⟩ (.slice none 0 0)).setCell ⟨w.heap.size + 1, 3, none⟩ (.slice none 0 0)).setCell ⟨w.heap.size + 1, 4, none⟩ (.slice none 0 0)).setCell ⟨w.heap.size + 1, 5, none⟩ (.slice none 0 0)).setCell ⟨w.heap.size + 1, 6, none⟩ (.slice none 0 0)).setCell ⟨w.heap.size + 1, 7, none⟩ (.slice none 0 0)).heap[w.heap.size + 1]? = some (.cells #[.slice none 0 0, .int .i64 0, .slice none 0 0, .slice none 0 0, .slice none 0 0, .slice none 0 0, .slice none 0 0, .slice none 0 0] 24 (0, 0)) := set8 hb2
    have hdS : ((((((((w1.setCell ⟨w.heap.size + 1, 0, none⟩ (.slice none 0 0)).setCell ⟨w.heap.size + 1, 1, none⟩ (.int .i64 0)).setCell ⟨w.heap.size + 1, 2, none⟩ (.slice none 0 0)).setCell ⟨w.heap.size + 1, 3, none⟩ (.slice none 0 0)).setCell ⟨w.heap.size + 1, 4, none⟩ (.slice none 0 0)).setCell ⟨w.heap.size + 1, 5, none⟩ (.slice none 0 0)).setCell ⟨w.heap.size + 1, 6, none⟩ (.slice none 0 0)).setCell ⟨w.heap.size + 1, 7, none⟩ (.slice none 0 0)).heap[w.heap.size + 1 + 1]? = some (.cells #[.bool false] 4 (0, 0)) := set8_other hd2 (by omega)
    have hkT : Keeps [] w ((((((((w1.setCell ⟨w.heap.size + 1, 0, none⟩ (.slice none 0 0)).setCell ⟨w.heap.size + 1, 1, none⟩ (.int .i64 0)).setCell ⟨w.heap.size + 1, 2, none⟩ (.slice none 0 0)).setCell ⟨w.heap.size + 1, 3, none⟩ (.slice none 0 0)).setCell ⟨w.heap.size + 1, 4, none⟩ (.slice none 0 0)).setCell ⟨w.heap.size + 1, 5, none⟩ (.slice none 0 0)).setCell ⟨w.heap.size + 1, 6, none⟩ (.slice none 0 0)).setCell ⟨w.heap.size + 1, 7, none⟩ (.slice none 0 0)) := set8_keeps HKK.out (by omega)
    have hbF : (((((((((w1.setCell ⟨w.heap.size + 1, 0, none⟩ (.slice none 0 0)).setCell ⟨w.heap.size + 1, 1, none⟩ (.int .i64 0)).setCell ⟨w.heap.size + 1, 2, none⟩ (.slice none 0 0)).setCell ⟨w.heap.size + 1, 3, none⟩ (.slice none 0 0)).setCell ⟨w.heap.size + 1, 4, none⟩ (.slice none 0 0)).setCell ⟨w.heap.size + 1, 5, none⟩ (.slice none 0 0)).setCell ⟨w.heap.size + 1, 6, none⟩ (.slice none 0 0)).setCell ⟨w.heap.size + 1, 7, none⟩ (.slice none 0 0)).setCell ⟨w.heap.size + 1 + 1, 0, none⟩ (.bool false)).heap[w.heap.size + 1]? = some (.cells #[.slice none 0 0, .int .i64 0, .slice none 0 0, .slice none 0 0, .slice none 0 0, .slice none 0 0, .slice none 0 0, .slice none 0 0] 24 (0, 0)) := (Below.heap_setCell _ _ _ _ (by simp)).trans hbS
    have hdF : (((((((((w1.setCell ⟨w.heap.size + 1, 0, none⟩ (.slice none 0 0)).setCell ⟨w.heap.size + 1, 1, none⟩ (.int .i64 0)).setCell ⟨w.heap.size + 1, 2, none⟩ (.slice none 0 0)).setCell ⟨w.heap.size + 1, 3, none⟩ (.slice none 0 0)).setCell ⟨w.heap.size + 1, 4, none⟩ (.slice none 0 0)).setCell ⟨w.heap.size + 1, 5, none⟩ (.slice none 0 0)).setCell ⟨w.heap.size + 1, 6, none⟩ (.slice none 0 0)).setCell ⟨w.heap.size + 1, 7, none⟩ (.slice none 0 0)).setCell ⟨w.heap.size + 1 + 1, 0, none⟩ (.bool false)).heap[w.heap.size + 1 + 1]? = some (.cells #[.bool false] 4 (0, 0)) := one_setCell hdS
    have hkU : Keeps [] w (((((((((w1.setCell ⟨w.heap.size + 1, 0, none⟩ (.slice none 0 0)).setCell ⟨w.heap.size + 1, 1, none⟩ (.int .i64 0)).setCell ⟨w.heap.size + 1, 2, none⟩ (.slice none 0 0)).setCell ⟨w.heap.size + 1, 3, none⟩ (.slice none 0 0)).setCell ⟨w.heap.size + 1, 4, none⟩ (.slice none 0 0)).setCell ⟨w.heap.size + 1, 5, none⟩ (.slice none 0 0)).setCell ⟨w.heap.size + 1, 6, none⟩ (.slice none 0 0)).setCell ⟨w.heap.size + 1, 7, none⟩ (.slice none 0 0)).setCell ⟨w.heap.size + 1 + 1, 0, none⟩ (.bool false)) := hkT.setCell (by simp; omega) _
    have HBF := Lib.hid hbF; have HDF := Lib.hid hdF; have HKU := Lib.hid hkU
    have HNO := Lib.hid hno
    clear hbS hdS hkT hbF hdF hkU hb2 hd2 h1 ff hno
    go_wp2
    refine leaves_cons (f := 13) (args := #[.pointer (some ⟨w.heap.size + 1 + 1, 0, none⟩)]) (by simp) (by simp [go_sem]) ?_
    refine (kept_idle ⟨w.heap.size + 1 + 1, 0, none⟩ _).mono ?_
    rintro e u' w'' ⟨rfl, rfl, rfl⟩
    clear dd df k0 k1 k2 k3 k4 k5 k6 k7 e0 e1 e2 e3 e4 e5 e6 e7
    obtain ⟨wF, hwF⟩ : ∃ wF, wF = (((((((((w1.setCell ⟨w.heap.size + 1, 0, none⟩ (.slice none 0 0)).setCell ⟨w.heap.size + 1, 1, none⟩ (.int .i64 0)).setCell ⟨w.heap.size + 1, 2, none⟩ (.slice none 0 0)).setCell ⟨w.heap.size + 1, 3, none⟩ (.slice none 0 0)).setCell ⟨w.heap.size + 1, 4, none⟩ (.slice none 0 0)).setCell ⟨w.heap.size + 1, 5, none⟩ (.slice none 0 0)).setCell ⟨w.heap.size + 1, 6, none⟩ (.slice none 0 0)).setCell ⟨w.heap.size + 1, 7, none⟩ (.slice none 0 0)).setCell ⟨w.heap.size + 1 + 1, 0, none⟩ (.bool false)) := ⟨_, rfl⟩
    rw [← hwF] at HBF HDF HKU
    rw [← hwF]
    clear hwF
    obtain ⟨k0, k1, k2, k3, k4, k5, k6, k7⟩ := key8 HBF.out
    have dd := cell_of_one HDF.out
    simp [Leaves, settle, results, Try.results11, go_sem, dd, k0, k1, k2, k3, k4, k5, k6, k7]
    exact ⟨.inr ⟨HNO.out, rfl⟩, HKU.out⟩

set_option maxRecDepth 1000000 in
set_option maxHeartbeats 8000000 in
theorem bCheck_all (k : KA) (w : World) (hk : k.is w) (ht : k.tidy) (hnil : k.a5 ≠ none) :
    Calls Try.prog 11 #[.agg #[.slice k.a1 k.m1 k.c1, .int .i64 k.E, .slice k.a2 k.m2 k.c2, .slice k.a3 k.m3 k.c3, .slice k.a4 k.m4 k.c4, .slice k.a5 k.m5 k.c5, .slice k.a6 k.m6 k.c6, .slice k.a7 k.m7 k.c7], .int .i64 1] w fun e w' =>
      CheckR e w' (KeyOk (bval k.L1) k.E (bval k.L2) (bval k.L3) (bval k.L4) (bval k.L5) (bval k.L6) (bval k.L7)) (bval k.L1) k.E (bval k.L2) (bval k.L3) (bval k.L4) (bval k.L5) (bval k.L6) (bval k.L7) ∧ Keeps [] w w' := by
  have hk0 : Keeps [] w (((w.alloc (.cells #[.slice k.a1 k.m1 k.c1, .int .i64 k.E, .slice k.a2 k.m2 k.c2, .slice k.a3 k.m3 k.c3, .slice k.a4 k.m4 k.c4, .slice k.a5 k.m5 k.c5, .slice k.a6 k.m6 k.c6, .slice k.a7 k.m7 k.c7] 24)).alloc (.cells #[.slice none 0 0, .int .i64 0, .slice none 0 0, .slice none 0 0, .slice none 0 0, .slice none 0 0, .slice none 0 0, .slice none 0 0] 24)).alloc (.cells #[.bool false] 4)) := (((Keeps.refl _ _).alloc _).alloc _).alloc _
  have hb0 : (((w.alloc (.cells #[.slice k.a1 k.m1 k.c1, .int .i64 k.E, .slice k.a2 k.m2 k.c2, .slice k.a3 k.m3 k.c3, .slice k.a4 k.m4 k.c4, .slice k.a5 k.m5 k.c5, .slice k.a6 k.m6 k.c6, .slice k.a7 k.m7 k.c7] 24)).alloc (.cells #[.slice none 0 0, .int .i64 0, .slice none 0 0, .slice none 0 0, .slice none 0 0, .slice none 0 0, .slice none 0 0, .slice none 0 0] 24)).alloc (.cells #[.bool false] 4)).heap[w.heap.size + 1]? = some (.cells #[.slice none 0 0, .int .i64 0, .slice none 0 0, .slice none 0 0, .slice none 0 0, .slice none 0 0, .slice none 0 0, .slice none 0 0] 24 (0, 0)) := by
    show (((w.heap.push _).push _).push _)[w.heap.size + 1]? = _
    rw [Array.getElem?_push, if_neg (by simp), Array.getElem?_push, if_pos (by simp)]
  have hd0 : (((w.alloc (.cells #[.slice k.a1 k.m1 k.c1, .int .i64 k.E, .slice k.a2 k.m2 k.c2, .slice k.a3 k.m3 k.c3, .slice k.a4 k.m4 k.c4, .slice k.a5 k.m5 k.c5, .slice k.a6 k.m6 k.c6, .slice k.a7 k.m7 k.c7] 24)).alloc (.cells #[.slice none 0 0, .int .i64 0, .slice none 0 0, .slice none 0 0, .slice none 0 0, .slice none 0 0, .slice none 0 0, .slice none 0 0] 24)).alloc (.cells #[.bool false] 4)).heap[w.heap.size + 1 + 1]? = some (.cells #[.bool false] 4 (0, 0)) := by
    show (((w.heap.push _).push _).push _)[w.heap.size + 1 + 1]? = _
    rw [Array.getElem?_push, if_pos (by simp)]
  have HK := Lib.hid hk0; have HB := Lib.hid hb0; have HD := Lib.hid hd0
  clear hk0 hb0 hd0
  go_enter_defers Try.func11, Try.ntmps11
  go_wp2_with fail
  refine (keyOf_all k _ (hk.kept HK.out) ht hnil).mono ?_
  rintro e w1 ⟨⟨hok, Z, rfl, hI, hh⟩ | ⟨hno, rfl⟩, h1⟩
  · have HOK := Lib.hid hok
    have hZD : Z.D ≤ Z.N.v := by rw [hh.d, hh.n]; exact Nat.le_of_lt hok.lt
    have hZQ : Z.QI ≤ Z.P.v := by rw [hh.i, hh.p]; exact Nat.le_of_lt hok.qip
    have HH := Lib.hid hh
    clear hok hh
    go_wp2_with fail
    refine (export_any Z _ hI hZD hZQ).mono ?_
    rintro e w2 ⟨⟨v1, v2, v3, v4, v5, v6, v7, rfl, g1, g2, g3, g4, g5, g6, g7⟩, h2⟩
    rw [HH.out.n] at g1; rw [HH.out.d] at g2; rw [HH.out.p] at g3; rw [HH.out.q] at g4; rw [HH.out.dp] at g5; rw [HH.out.dq] at g6; rw [HH.out.i] at g7
    have hze := HH.out.e
    rw [hze]
    clear hze
    have G := Lib.hid (And.intro g1 (And.intro g2 (And.intro g3 (And.intro g4 (And.intro g5 (And.intro g6 g7))))))
    clear g1 g2 g3 g4 g5 g6 g7
    have hk12 := h1.trans1 h2
    have hb2 := blk_keeps HB.out hk12 (by simp)
    have hd2 := blk_keeps HD.out hk12 (by simp)
    have HKK := Lib.hid (HK.out.trans1 hk12)
    have dd := cell_of_one hd2
    have df := free_of_one hd2
    obtain ⟨k0, k1, k2, k3, k4, k5, k6, k7⟩ := key8 hb2
    have ff : ∀ j, w2.frozen? ⟨w.heap.size + 1, j, none⟩ = false := fun j => by simp [World.frozen?, hb2]
    have e0 := ff 0; have e1 := ff 1; have e2 := ff 2; have e3 := ff 3; have e4 := ff 4; have e5 := ff 5; have e6 := ff 6; have e7 := ff 7
    have HB2 := Lib.hid hb2; have HD2 := Lib.hid hd2
    clear ff hb2 hd2 h1 h2 hk12
    obtain ⟨a1, n1, c1, _, rfl, _⟩ := G.out.1
    obtain ⟨a2, n2, c2, _, rfl, _⟩ := G.out.2.1
    obtain ⟨a3, n3, c3, _, rfl, _⟩ := G.out.2.2.1
    obtain ⟨a4, n4, c4, _, rfl, _⟩ := G.out.2.2.2.1
    obtain ⟨a5, n5, c5, _, rfl, _⟩ := G.out.2.2.2.2.1
    obtain ⟨a6, n6, c6, _, rfl, _⟩ := G.out.2.2.2.2.2.1
    obtain ⟨a7, n7, c7, _, rfl, _⟩ := G.out.2.2.2.2.2.2
    have hbS : ((((((((((((((((w2.setCell ⟨w.heap.size + 1, 0, none⟩ (.slice a1 n1 c1)).setCell ⟨w.heap.size + 1, 1, none⟩ (.int .i64 k.E)).setCell ⟨w.heap.size + 1, 2, none⟩ (.slice a2 n2 c2)).setCell ⟨w.heap.size + 1, 3, none⟩ (.slice a3 n3 c3)).setCell ⟨w.heap.size + 1, 4, none⟩ (.slice a4 n4 c4)).setCell ⟨w.heap.size + 1, 5, none⟩ (.slice a5 n5 c5)).setCell ⟨w.heap.size + 1, 6, none⟩ (.slice a6 n6 c6)).setCell ⟨w.heap.size + 1, 7, none⟩ (.slice a7 n7 c7)).setCell ⟨w.heap.size + 1, 0, none⟩ (.slice a1 n1 c1)).setCell ⟨w.heap.size + 1, 1, none⟩ (.int .i64 k.E)).setCell ⟨w.heap.size + 1, 2, none⟩ (.slice a2 n2 c2)).setCell ⟨w.heap.size + 1, 3, none⟩ (.slice a3 n3 c3)).setCell ⟨w.heap.size + 1, 4, none⟩ (.slice a4 n4 c4)).setCell ⟨w.heap.size + 1, 5, none⟩ (.slice a5 n5 c5)).setCell ⟨w.heap.size + 1, 6, none⟩ (.slice a6 n6 c6)).setCell ⟨w.heap.size + 1, 7, none⟩ (.slice a7 n7 c7)).heap[w.heap.size + 1]? = some (.cells #[.slice a1 n1 c1, .int .i64 k.E, .slice a2 n2 c2, .slice a3 n3 c3, .slice a4 n4 c4, .slice a5 n5 c5, .slice a6 n6 c6, .slice a7 n7 c7] 24 (0, 0)) := set8 (set8 HB2.out)
    have hdS : ((((((((((((((((w2.setCell ⟨w.heap.size + 1, 0, none⟩ (.slice a1 n1 c1)).setCell ⟨w.heap.size + 1, 1, none⟩ (.int .i64 k.E)).setCell ⟨w.heap.size + 1, 2, none⟩ (.slice a2 n2 c2)).setCell ⟨w.heap.size + 1, 3, none⟩ (.slice a3 n3 c3)).setCell ⟨w.heap.size + 1, 4, none⟩ (.slice a4 n4 c4)).setCell ⟨w.heap.size + 1, 5, none⟩ (.slice a5 n5 c5)).setCell ⟨w.heap.size + 1, 6, none⟩ (.slice a6 n6 c6)).setCell ⟨w.heap.size + 1, 7, none⟩ (.slice a7 n7 c7)).setCell ⟨w.heap.size + 1, 0, none⟩ (.slice a1 n1 c1)).setCell ⟨w.heap.size + 1, 1, none⟩ (.int .i64 k.E)).setCell ⟨w.heap.size + 1, 2, none⟩ (.slice a2 n2 c2)).setCell ⟨w.heap.size + 1, 3, none⟩ (.slice a3 n3 c3)).setCell ⟨w.heap.size + 1, 4, none⟩ (.slice a4 n4 c4)).setCell ⟨w.heap.size + 1, 5, none⟩ (.slice a5 n5 c5)).setCell ⟨w.heap.size + 1, 6, none⟩ (.slice a6 n6 c6)).setCell ⟨w.heap.size + 1, 7, none⟩ (.slice a7 n7 c7)).heap[w.heap.size + 1 + 1]? = some (.cells #[.bool false] 4 (0, 0)) := set8_other (set8_other HD2.out (by omega)) (by omega)
    have hkS : Keeps [w.heap.size + 1, w.heap.size + 1 + 1] w2 ((((((((((((((((w2.setCell ⟨w.heap.size + 1, 0, none⟩ (.slice a1 n1 c1)).setCell ⟨w.heap.size + 1, 1, none⟩ (.int .i64 k.E)).setCell ⟨w.heap.size + 1, 2, none⟩ (.slice a2 n2 c2)).setCell ⟨w.heap.size + 1, 3, none⟩ (.slice a3 n3 c3)).setCell ⟨w.heap.size + 1, 4, none⟩ (.slice a4 n4 c4)).setCell ⟨w.heap.size + 1, 5, none⟩ (.slice a5 n5 c5)).setCell ⟨w.heap.size + 1, 6, none⟩ (.slice a6 n6 c6)).setCell ⟨w.heap.size + 1, 7, none⟩ (.slice a7 n7 c7)).setCell ⟨w.heap.size + 1, 0, none⟩ (.slice a1 n1 c1)).setCell ⟨w.heap.size + 1, 1, none⟩ (.int .i64 k.E)).setCell ⟨w.heap.size + 1, 2, none⟩ (.slice a2 n2 c2)).setCell ⟨w.heap.size + 1, 3, none⟩ (.slice a3 n3 c3)).setCell ⟨w.heap.size + 1, 4, none⟩ (.slice a4 n4 c4)).setCell ⟨w.heap.size + 1, 5, none⟩ (.slice a5 n5 c5)).setCell ⟨w.heap.size + 1, 6, none⟩ (.slice a6 n6 c6)).setCell ⟨w.heap.size + 1, 7, none⟩ (.slice a7 n7 c7)) := set8_keeps (set8_keeps (Keeps.refl _ _) (by simp)) (by simp)
    have hkT : Keeps [] w ((((((((((((((((w2.setCell ⟨w.heap.size + 1, 0, none⟩ (.slice a1 n1 c1)).setCell ⟨w.heap.size + 1, 1, none⟩ (.int .i64 k.E)).setCell ⟨w.heap.size + 1, 2, none⟩ (.slice a2 n2 c2)).setCell ⟨w.heap.size + 1, 3, none⟩ (.slice a3 n3 c3)).setCell ⟨w.heap.size + 1, 4, none⟩ (.slice a4 n4 c4)).setCell ⟨w.heap.size + 1, 5, none⟩ (.slice a5 n5 c5)).setCell ⟨w.heap.size + 1, 6, none⟩ (.slice a6 n6 c6)).setCell ⟨w.heap.size + 1, 7, none⟩ (.slice a7 n7 c7)).setCell ⟨w.heap.size + 1, 0, none⟩ (.slice a1 n1 c1)).setCell ⟨w.heap.size + 1, 1, none⟩ (.int .i64 k.E)).setCell ⟨w.heap.size + 1, 2, none⟩ (.slice a2 n2 c2)).setCell ⟨w.heap.size + 1, 3, none⟩ (.slice a3 n3 c3)).setCell ⟨w.heap.size + 1, 4, none⟩ (.slice a4 n4 c4)).setCell ⟨w.heap.size + 1, 5, none⟩ (.slice a5 n5 c5)).setCell ⟨w.heap.size + 1, 6, none⟩ (.slice a6 n6 c6)).setCell ⟨w.heap.size + 1, 7, none⟩ (.slice a7 n7 c7)) := set8_keeps (set8_keeps HKK.out (by omega)) (by omega)
    have hbF : (((((((((((((((((w2.setCell ⟨w.heap.size + 1, 0, none⟩ (.slice a1 n1 c1)).setCell ⟨w.heap.size + 1, 1, none⟩ (.int .i64 k.E)).setCell ⟨w.heap.size + 1, 2, none⟩ (.slice a2 n2 c2)).setCell ⟨w.heap.size + 1, 3, none⟩ (.slice a3 n3 c3)).setCell ⟨w.heap.size + 1, 4, none⟩ (.slice a4 n4 c4)).setCell ⟨w.heap.size + 1, 5, none⟩ (.slice a5 n5 c5)).setCell ⟨w.heap.size + 1, 6, none⟩ (.slice a6 n6 c6)).setCell ⟨w.heap.size + 1, 7, none⟩ (.slice a7 n7 c7)).setCell ⟨w.heap.size + 1, 0, none⟩ (.slice a1 n1 c1)).setCell ⟨w.heap.size + 1, 1, none⟩ (.int .i64 k.E)).setCell ⟨w.heap.size + 1, 2, none⟩ (.slice a2 n2 c2)).setCell ⟨w.heap.size + 1, 3, none⟩ (.slice a3 n3 c3)).setCell ⟨w.heap.size + 1, 4, none⟩ (.slice a4 n4 c4)).setCell ⟨w.heap.size + 1, 5, none⟩ (.slice a5 n5 c5)).setCell ⟨w.heap.size + 1, 6, none⟩ (.slice a6 n6 c6)).setCell ⟨w.heap.size + 1, 7, none⟩ (.slice a7 n7 c7)).setCell ⟨w.heap.size + 1 + 1, 0, none⟩ (.bool true)).heap[w.heap.size + 1]? = some (.cells #[.slice a1 n1 c1, .int .i64 k.E, .slice a2 n2 c2, .slice a3 n3 c3, .slice a4 n4 c4, .slice a5 n5 c5, .slice a6 n6 c6, .slice a7 n7 c7] 24 (0, 0)) := (Below.heap_setCell _ _ _ _ (by simp)).trans hbS
    have hdF : (((((((((((((((((w2.setCell ⟨w.heap.size + 1, 0, none⟩ (.slice a1 n1 c1)).setCell ⟨w.heap.size + 1, 1, none⟩ (.int .i64 k.E)).setCell ⟨w.heap.size + 1, 2, none⟩ (.slice a2 n2 c2)).setCell ⟨w.heap.size + 1, 3, none⟩ (.slice a3 n3 c3)).setCell ⟨w.heap.size + 1, 4, none⟩ (.slice a4 n4 c4)).setCell ⟨w.heap.size + 1, 5, none⟩ (.slice a5 n5 c5)).setCell ⟨w.heap.size + 1, 6, none⟩ (.slice a6 n6 c6)).setCell ⟨w.heap.size + 1, 7, none⟩ (.slice a7 n7 c7)).setCell ⟨w.heap.size + 1, 0, none⟩ (.slice a1 n1 c1)).setCell ⟨w.heap.size + 1, 1, none⟩ (.int .i64 k.E)).setCell ⟨w.heap.size + 1, 2, none⟩ (.slice a2 n2 c2)).setCell ⟨w.heap.size + 1, 3, none⟩ (.slice a3 n3 c3)).setCell ⟨w.heap.size + 1, 4, none⟩ (.slice a4 n4 c4)).setCell ⟨w.heap.size + 1, 5, none⟩ (.slice a5 n5 c5)).setCell ⟨w.heap.size + 1, 6, none⟩ (.slice a6 n6 c6)).setCell ⟨w.heap.size + 1, 7, none⟩ (.slice a7 n7 c7)).setCell ⟨w.heap.size + 1 + 1, 0, none⟩ (.bool true)).heap[w.heap.size + 1 + 1]? = some (.cells #[.bool true] 4 (0, 0)) := one_setCell hdS
    have hkF : Keeps [w.heap.size + 1, w.heap.size + 1 + 1] w2 (((((((((((((((((w2.setCell ⟨w.heap.size + 1, 0, none⟩ (.slice a1 n1 c1)).setCell ⟨w.heap.size + 1, 1, none⟩ (.int .i64 k.E)).setCell ⟨w.heap.size + 1, 2, none⟩ (.slice a2 n2 c2)).setCell ⟨w.heap.size + 1, 3, none⟩ (.slice a3 n3 c3)).setCell ⟨w.heap.size + 1, 4, none⟩ (.slice a4 n4 c4)).setCell ⟨w.heap.size + 1, 5, none⟩ (.slice a5 n5 c5)).setCell ⟨w.heap.size + 1, 6, none⟩ (.slice a6 n6 c6)).setCell ⟨w.heap.size + 1, 7, none⟩ (.slice a7 n7 c7)).setCell ⟨w.heap.size + 1, 0, none⟩ (.slice a1 n1 c1)).setCell ⟨w.heap.size + 1, 1, none⟩ (.int .i64 k.E)).setCell ⟨w.heap.size + 1, 2, none⟩ (.slice a2 n2 c2)).setCell ⟨w.heap.size + 1, 3, none⟩ (.slice a3 n3 c3)).setCell ⟨w.heap.size + 1, 4, none⟩ (.slice a4 n4 c4)).setCell ⟨w.heap.size + 1, 5, none⟩ (.slice a5 n5 c5)).setCell ⟨w.heap.size + 1, 6, none⟩ (.slice a6 n6 c6)).setCell ⟨w.heap.size + 1, 7, none⟩ (.slice a7 n7 c7)).setCell ⟨w.heap.size + 1 + 1, 0, none⟩ (.bool true)) := hkS.setCell (by simp) _
    have hkU : Keeps [] w (((((((((((((((((w2.setCell ⟨w.heap.size + 1, 0, none⟩ (.slice a1 n1 c1)).setCell ⟨w.heap.size + 1, 1, none⟩ (.int .i64 k.E)).setCell ⟨w.heap.size + 1, 2, none⟩ (.slice a2 n2 c2)).setCell ⟨w.heap.size + 1, 3, none⟩ (.slice a3 n3 c3)).setCell ⟨w.heap.size + 1, 4, none⟩ (.slice a4 n4 c4)).setCell ⟨w.heap.size + 1, 5, none⟩ (.slice a5 n5 c5)).setCell ⟨w.heap.size + 1, 6, none⟩ (.slice a6 n6 c6)).setCell ⟨w.heap.size + 1, 7, none⟩ (.slice a7 n7 c7)).setCell ⟨w.heap.size + 1, 0, none⟩ (.slice a1 n1 c1)).setCell ⟨w.heap.size + 1, 1, none⟩ (.int .i64 k.E)).setCell ⟨w.heap.size + 1, 2, none⟩ (.slice a2 n2 c2)).setCell ⟨w.heap.size + 1, 3, none⟩ (.slice a3 n3 c3)).setCell ⟨w.heap.size + 1, 4, none⟩ (.slice a4 n4 c4)).setCell ⟨w.heap.size + 1, 5, none⟩ (.slice a5 n5 c5)).setCell ⟨w.heap.size + 1, 6, none⟩ (.slice a6 n6 c6)).setCell ⟨w.heap.size + 1, 7, none⟩ (.slice a7 n7 c7)).setCell ⟨w.heap.size + 1 + 1, 0, none⟩ (.bool true)) := hkT.setCell (by simp; omega) _
    have HBF := Lib.hid hbF; have HDF := Lib.hid hdF; have HKF := Lib.hid hkF; have HKU := Lib.hid hkU
    clear hbS hdS hkS hkT hbF hdF hkF hkU
    go_wp2
    refine leaves_cons (f := 13) (args := #[.pointer (some ⟨w.heap.size + 1 + 1, 0, none⟩)]) (by simp) (by simp [go_sem]) ?_
    refine (kept_idle ⟨w.heap.size + 1 + 1, 0, none⟩ _).mono ?_
    rintro e u' w'' ⟨rfl, rfl, rfl⟩
    clear dd df k0 k1 k2 k3 k4 k5 k6 k7 e0 e1 e2 e3 e4 e5 e6 e7
    obtain ⟨wF, hwF⟩ : ∃ wF, wF = (((((((((((((((((w2.setCell ⟨w.heap.size + 1, 0, none⟩ (.slice a1 n1 c1)).setCell ⟨w.heap.size + 1, 1, none⟩ (.int .i64 k.E)).setCell ⟨w.heap.size + 1, 2, none⟩ (.slice a2 n2 c2)).setCell ⟨w.heap.size + 1, 3, none⟩ (.slice a3 n3 c3)).setCell ⟨w.heap.size + 1, 4, none⟩ (.slice a4 n4 c4)).setCell ⟨w.heap.size + 1, 5, none⟩ (.slice a5 n5 c5)).setCell ⟨w.heap.size + 1, 6, none⟩ (.slice a6 n6 c6)).setCell ⟨w.heap.size + 1, 7, none⟩ (.slice a7 n7 c7)).setCell ⟨w.heap.size + 1, 0, none⟩ (.slice a1 n1 c1)).setCell ⟨w.heap.size + 1, 1, none⟩ (.int .i64 k.E)).setCell ⟨w.heap.size + 1, 2, none⟩ (.slice a2 n2 c2)).setCell ⟨w.heap.size + 1, 3, none⟩ (.slice a3 n3 c3)).setCell ⟨w.heap.size + 1, 4, none⟩ (.slice a4 n4 c4)).setCell ⟨w.heap.size + 1, 5, none⟩ (.slice a5 n5 c5)).setCell ⟨w.heap.size + 1, 6, none⟩ (.slice a6 n6 c6)).setCell ⟨w.heap.size + 1, 7, none⟩ (.slice a7 n7 c7)).setCell ⟨w.heap.size + 1 + 1, 0, none⟩ (.bool true)) := ⟨_, rfl⟩
    rw [← hwF] at HBF HDF HKF HKU
    rw [← hwF]
    clear hwF
    obtain ⟨k0, k1, k2, k3, k4, k5, k6, k7⟩ := key8 HBF.out
    have dd := cell_of_one HDF.out
    simp [Leaves, settle, results, Try.results11, go_sem, dd, k0, k1, k2, k3, k4, k5, k6, k7]
    exact ⟨.inl ⟨HOK.out, _, _, _, _, _, _, _, rfl, G.out.1.keeps2 HKF.out HB2.out no_u8 HD2.out (no_u8b _), G.out.2.1.keeps2 HKF.out HB2.out no_u8 HD2.out (no_u8b _), G.out.2.2.1.keeps2 HKF.out HB2.out no_u8 HD2.out (no_u8b _), G.out.2.2.2.1.keeps2 HKF.out HB2.out no_u8 HD2.out (no_u8b _), G.out.2.2.2.2.1.keeps2 HKF.out HB2.out no_u8 HD2.out (no_u8b _), G.out.2.2.2.2.2.1.keeps2 HKF.out HB2.out no_u8 HD2.out (no_u8b _), G.out.2.2.2.2.2.2.keeps2 HKF.out HB2.out no_u8 HD2.out (no_u8b _)⟩, HKU.out⟩
  · have hb2 := blk_keeps HB.out h1 (by simp)
    have hd2 := blk_keeps HD.out h1 (by simp)
    have HKK := Lib.hid (HK.out.trans1 h1)
    have dd := cell_of_one hd2
    have df := free_of_one hd2
    obtain ⟨k0, k1, k2, k3, k4, k5, k6, k7⟩ := key8 hb2
    have ff : ∀ j, w1.frozen? ⟨w.heap.size + 1, j, none⟩ = false := fun j => by simp [World.frozen?, hb2]
    have e0 := ff 0; have e1 := ff 1; have e2 := ff 2; have e3 := ff 3; have e4 := ff 4; have e5 := ff 5; have e6 := ff 6; have e7 := ff 7
    have hbS : ((((((((w1.setCell ⟨w.heap.size + 1, 0, none⟩ (.slice none 0 0)).setCell ⟨w.heap.size + 1, 1, none⟩ (.int .i64 0)).setCell ⟨w.heap.size + 1, 2, none⟩ (.slice none 0 0)).setCell ⟨w.heap.size + 1, 3, none⟩ (.slice none 0 0)).setCell ⟨w.heap.size + 1, 4, none⟩ (.slice none 0 0)).setCell ⟨w.heap.size + 1, 5, none⟩ (.slice none 0 0)).setCell ⟨w.heap.size + 1, 6, none⟩ (.slice none 0 0)).setCell ⟨w.heap.size + 1, 7, none⟩ (.slice none 0 0)).heap[w.heap.size + 1]? = some (.cells #[.slice none 0 0, .int .i64 0, .slice none 0 0, .slice none 0 0, .slice none 0 0, .slice none 0 0, .slice none 0 0, .slice none 0 0] 24 (0, 0)) := set8 hb2
    have hdS : ((((((((w1.setCell ⟨w.heap.size + 1, 0, none⟩ (.slice none 0 0)).setCell ⟨w.heap.size + 1, 1, none⟩ (.int .i64 0)).setCell ⟨w.heap.size + 1, 2, none⟩ (.slice none 0 0)).setCell ⟨w.heap.size + 1, 3, none⟩ (.slice none 0 0)).setCell ⟨w.heap.size + 1, 4, none⟩ (.slice none 0 0)).setCell ⟨w.heap.size + 1, 5, none⟩ (.slice none 0 0)).setCell ⟨w.heap.size + 1, 6, none⟩ (.slice none 0 0)).setCell ⟨w.heap.size + 1, 7, none⟩ (.slice none 0 0)).heap[w.heap.size + 1 + 1]? = some (.cells #[.bool false] 4 (0, 0)) := set8_other hd2 (by omega)
    have hkT : Keeps [] w ((((((((w1.setCell ⟨w.heap.size + 1, 0, none⟩ (.slice none 0 0)).setCell ⟨w.heap.size + 1, 1, none⟩ (.int .i64 0)).setCell ⟨w.heap.size + 1, 2, none⟩ (.slice none 0 0)).setCell ⟨w.heap.size + 1, 3, none⟩ (.slice none 0 0)).setCell ⟨w.heap.size + 1, 4, none⟩ (.slice none 0 0)).setCell ⟨w.heap.size + 1, 5, none⟩ (.slice none 0 0)).setCell ⟨w.heap.size + 1, 6, none⟩ (.slice none 0 0)).setCell ⟨w.heap.size + 1, 7, none⟩ (.slice none 0 0)) := set8_keeps HKK.out (by omega)
    have hbF : (((((((((w1.setCell ⟨w.heap.size + 1, 0, none⟩ (.slice none 0 0)).setCell ⟨w.heap.size + 1, 1, none⟩ (.int .i64 0)).setCell ⟨w.heap.size + 1, 2, none⟩ (.slice none 0 0)).setCell ⟨w.heap.size + 1, 3, none⟩ (.slice none 0 0)).setCell ⟨w.heap.size + 1, 4, none⟩ (.slice none 0 0)).setCell ⟨w.heap.size + 1, 5, none⟩ (.slice none 0 0)).setCell ⟨w.heap.size + 1, 6, none⟩ (.slice none 0 0)).setCell ⟨w.heap.size + 1, 7, none⟩ (.slice none 0 0)).setCell ⟨w.heap.size + 1 + 1, 0, none⟩ (.bool false)).heap[w.heap.size + 1]? = some (.cells #[.slice none 0 0, .int .i64 0, .slice none 0 0, .slice none 0 0, .slice none 0 0, .slice none 0 0, .slice none 0 0, .slice none 0 0] 24 (0, 0)) := (Below.heap_setCell _ _ _ _ (by simp)).trans hbS
    have hdF : (((((((((w1.setCell ⟨w.heap.size + 1, 0, none⟩ (.slice none 0 0)).setCell ⟨w.heap.size + 1, 1, none⟩ (.int .i64 0)).setCell ⟨w.heap.size + 1, 2, none⟩ (.slice none 0 0)).setCell ⟨w.heap.size + 1, 3, none⟩ (.slice none 0 0)).setCell ⟨w.heap.size + 1, 4, none⟩ (.slice none 0 0)).setCell ⟨w.heap.size + 1, 5, none⟩ (.slice none 0 0)).setCell ⟨w.heap.size + 1, 6, none⟩ (.slice none 0 0)).setCell ⟨w.heap.size + 1, 7, none⟩ (.slice none 0 0)).setCell ⟨w.heap.size + 1 + 1, 0, none⟩ (.bool false)).heap[w.heap.size + 1 + 1]? = some (.cells #[.bool false] 4 (0, 0)) := one_setCell hdS
    have hkU : Keeps [] w (((((((((w1.setCell ⟨w.heap.size + 1, 0, none⟩ (.slice none 0 0)).setCell ⟨w.heap.size + 1, 1, none⟩ (.int .i64 0)).setCell ⟨w.heap.size + 1, 2, none⟩ (.slice none 0 0)).setCell ⟨w.heap.size + 1, 3, none⟩ (.slice none 0 0)).setCell ⟨w.heap.size + 1, 4, none⟩ (.slice none 0 0)).setCell ⟨w.heap.size + 1, 5, none⟩ (.slice none 0 0)).setCell ⟨w.heap.size + 1, 6, none⟩ (.slice none 0 0)).setCell ⟨w.heap.size + 1, 7, none⟩ (.slice none 0 0)).setCell ⟨w.heap.size + 1 + 1, 0, none⟩ (.bool false)) := hkT.setCell (by simp; omega) _
    have HBF := Lib.hid hbF; have HDF := Lib.hid hdF; have HKU := Lib.hid hkU
    have HNO := Lib.hid hno
    clear hbS hdS hkT hbF hdF hkU hb2 hd2 h1 ff hno
    go_wp2
    refine leaves_cons (f := 13) (args := #[.pointer (some ⟨w.heap.size + 1 + 1, 0, none⟩)]) (by simp) (by simp [go_sem]) ?_
    refine (kept_idle ⟨w.heap.size + 1 + 1, 0, none⟩ _).mono ?_
    rintro e u' w'' ⟨rfl, rfl, rfl⟩
    clear dd df k0 k1 k2 k3 k4 k5 k6 k7 e0 e1 e2 e3 e4 e5 e6 e7
    obtain ⟨wF, hwF⟩ : ∃ wF, wF = (((((((((w1.setCell ⟨w.heap.size + 1, 0, none⟩ (.slice none 0 0)).setCell ⟨w.heap.size + 1, 1, none⟩ (.int .i64 0)).setCell ⟨w.heap.size + 1, 2, none⟩ (.slice none 0 0)).setCell ⟨w.heap.size + 1, 3, none⟩ (.slice none 0 0)).setCell ⟨w.heap.size + 1, 4, none⟩ (.slice none 0 0)).setCell ⟨w.heap.size + 1, 5, none⟩ (.slice none 0 0)).setCell ⟨w.heap.size + 1, 6, none⟩ (.slice none 0 0)).setCell ⟨w.heap.size + 1, 7, none⟩ (.slice none 0 0)).setCell ⟨w.heap.size + 1 + 1, 0, none⟩ (.bool false)) := ⟨_, rfl⟩
    rw [← hwF] at HBF HDF HKU
    rw [← hwF]
    clear hwF
    obtain ⟨k0, k1, k2, k3, k4, k5, k6, k7⟩ := key8 HBF.out
    have dd := cell_of_one HDF.out
    simp [Leaves, settle, results, Try.results11, go_sem, dd, k0, k1, k2, k3, k4, k5, k6, k7]
    exact ⟨.inr ⟨HNO.out, rfl⟩, HKU.out⟩

set_option maxRecDepth 1000000 in
set_option maxHeartbeats 8000000 in
theorem bCheck_bare (k : KA) (w : World) (hk : k.is w) (ht : k.tidy) :
    Calls Try.prog 11 #[.agg #[.slice k.a1 k.m1 k.c1, .int .i64 k.E, .slice k.a2 k.m2 k.c2, .slice k.a3 k.m3 k.c3, .slice k.a4 k.m4 k.c4, .slice k.a5 k.m5 k.c5, .slice k.a6 k.m6 k.c6, .slice k.a7 k.m7 k.c7], .int .i64 2] w fun e w' =>
      CheckB e w' (bval k.L1) k.E (bval k.L2) ∧ Keeps [] w w' := by
  have hk0 : Keeps [] w (((w.alloc (.cells #[.slice k.a1 k.m1 k.c1, .int .i64 k.E, .slice k.a2 k.m2 k.c2, .slice k.a3 k.m3 k.c3, .slice k.a4 k.m4 k.c4, .slice k.a5 k.m5 k.c5, .slice k.a6 k.m6 k.c6, .slice k.a7 k.m7 k.c7] 24)).alloc (.cells #[.slice none 0 0, .int .i64 0, .slice none 0 0, .slice none 0 0, .slice none 0 0, .slice none 0 0, .slice none 0 0, .slice none 0 0] 24)).alloc (.cells #[.bool false] 4)) := (((Keeps.refl _ _).alloc _).alloc _).alloc _
  have hb0 : (((w.alloc (.cells #[.slice k.a1 k.m1 k.c1, .int .i64 k.E, .slice k.a2 k.m2 k.c2, .slice k.a3 k.m3 k.c3, .slice k.a4 k.m4 k.c4, .slice k.a5 k.m5 k.c5, .slice k.a6 k.m6 k.c6, .slice k.a7 k.m7 k.c7] 24)).alloc (.cells #[.slice none 0 0, .int .i64 0, .slice none 0 0, .slice none 0 0, .slice none 0 0, .slice none 0 0, .slice none 0 0, .slice none 0 0] 24)).alloc (.cells #[.bool false] 4)).heap[w.heap.size + 1]? = some (.cells #[.slice none 0 0, .int .i64 0, .slice none 0 0, .slice none 0 0, .slice none 0 0, .slice none 0 0, .slice none 0 0, .slice none 0 0] 24 (0, 0)) := by
    show (((w.heap.push _).push _).push _)[w.heap.size + 1]? = _
    rw [Array.getElem?_push, if_neg (by simp), Array.getElem?_push, if_pos (by simp)]
  have hd0 : (((w.alloc (.cells #[.slice k.a1 k.m1 k.c1, .int .i64 k.E, .slice k.a2 k.m2 k.c2, .slice k.a3 k.m3 k.c3, .slice k.a4 k.m4 k.c4, .slice k.a5 k.m5 k.c5, .slice k.a6 k.m6 k.c6, .slice k.a7 k.m7 k.c7] 24)).alloc (.cells #[.slice none 0 0, .int .i64 0, .slice none 0 0, .slice none 0 0, .slice none 0 0, .slice none 0 0, .slice none 0 0, .slice none 0 0] 24)).alloc (.cells #[.bool false] 4)).heap[w.heap.size + 1 + 1]? = some (.cells #[.bool false] 4 (0, 0)) := by
    show (((w.heap.push _).push _).push _)[w.heap.size + 1 + 1]? = _
    rw [Array.getElem?_push, if_pos (by simp)]
  have HK := Lib.hid hk0; have HB := Lib.hid hb0; have HD := Lib.hid hd0
  clear hk0 hb0 hd0
  go_enter_defers Try.func11, Try.ntmps11
  go_wp2_with fail
  refine (keyOf_bare k _ (hk.kept HK.out) ht).mono ?_
  rintro e w1 ⟨⟨hok, Z, rfl, hI, hn, he, hd⟩ | ⟨hno, rfl⟩, h1⟩
  · have HOK := Lib.hid hok
    have hZD : Z.D ≤ Z.N.v := by rw [hd, hn]; exact Nat.le_of_lt hok.2.2
    have HH := Lib.hid (And.intro hn (And.intro he hd))
    clear hok hn he hd
    go_wp2_with fail
    refine (export_bare Z _ hI hZD).mono ?_
    rintro e w2 ⟨⟨v1, v2, rfl, g1, g2⟩, h2⟩
    rw [HH.out.1] at g1; rw [HH.out.2.2] at g2
    have hze := HH.out.2.1
    rw [hze]
    clear hze
    have G := Lib.hid (And.intro g1 g2)
    clear g1 g2
    have hk12 := h1.trans1 h2
    have hb2 := blk_keeps HB.out hk12 (by simp)
    have hd2 := blk_keeps HD.out hk12 (by simp)
    have HKK := Lib.hid (HK.out.trans1 hk12)
    have dd := cell_of_one hd2
    have df := free_of_one hd2
    obtain ⟨k0, k1, k2, k3, k4, k5, k6, k7⟩ := key8 hb2
    have ff : ∀ j, w2.frozen? ⟨w.heap.size + 1, j, none⟩ = false := fun j => by simp [World.frozen?, hb2]
    have e0 := ff 0; have e1 := ff 1; have e2 := ff 2; have e3 := ff 3; have e4 := ff 4; have e5 := ff 5; have e6 := ff 6; have e7 := ff 7
    have HB2 := Lib.hid hb2; have HD2 := Lib.hid hd2
    clear ff hb2 hd2 h1 h2 hk12
    obtain ⟨a1, n1, c1, _, rfl, _⟩ := G.out.1
    obtain ⟨a2, n2, c2, _, rfl, _⟩ := G.out.2
    have hbS : ((((((((((((((((w2.setCell ⟨w.heap.size + 1, 0, none⟩ (.slice a1 n1 c1)).setCell ⟨w.heap.size + 1, 1, none⟩ (.int .i64 k.E)).setCell ⟨w.heap.size + 1, 2, none⟩ (.slice a2 n2 c2)).setCell ⟨w.heap.size + 1, 3, none⟩ (.slice none 0 0)).setCell ⟨w.heap.size + 1, 4, none⟩ (.slice none 0 0)).setCell ⟨w.heap.size + 1, 5, none⟩ (.slice none 0 0)).setCell ⟨w.heap.size + 1, 6, none⟩ (.slice none 0 0)).setCell ⟨w.heap.size + 1, 7, none⟩ (.slice none 0 0)).setCell ⟨w.heap.size + 1, 0, none⟩ (.slice a1 n1 c1)).setCell ⟨w.heap.size + 1, 1, none⟩ (.int .i64 k.E)).setCell ⟨w.heap.size + 1, 2, none⟩ (.slice a2 n2 c2)).setCell ⟨w.heap.size + 1, 3, none⟩ (.slice none 0 0)).setCell ⟨w.heap.size + 1, 4, none⟩ (.slice none 0 0)).setCell ⟨w.heap.size + 1, 5, none⟩ (.slice none 0 0)).setCell ⟨w.heap.size + 1, 6, none⟩ (.slice none 0 0)).setCell ⟨w.heap.size + 1, 7, none⟩ (.slice none 0 0)).heap[w.heap.size + 1]? = some (.cells #[.slice a1 n1 c1, .int .i64 k.E, .slice a2 n2 c2, .slice none 0 0, .slice none 0 0, .slice none 0 0, .slice none 0 0, .slice none 0 0] 24 (0, 0)) := set8 (set8 HB2.out)
    have hdS : ((((((((((((((((w2.setCell ⟨w.heap.size + 1, 0, none⟩ (.slice a1 n1 c1)).setCell ⟨w.heap.size + 1, 1, none⟩ (.int .i64 k.E)).setCell ⟨w.heap.size + 1, 2, none⟩ (.slice a2 n2 c2)).setCell ⟨w.heap.size + 1, 3, none⟩ (.slice none 0 0)).setCell ⟨w.heap.size + 1, 4, none⟩ (.slice none 0 0)).setCell ⟨w.heap.size + 1, 5, none⟩ (.slice none 0 0)).setCell ⟨w.heap.size + 1, 6, none⟩ (.slice none 0 0)).setCell ⟨w.heap.size + 1, 7, none⟩ (.slice none 0 0)).setCell ⟨w.heap.size + 1, 0, none⟩ (.slice a1 n1 c1)).setCell ⟨w.heap.size + 1, 1, none⟩ (.int .i64 k.E)).setCell ⟨w.heap.size + 1, 2, none⟩ (.slice a2 n2 c2)).setCell ⟨w.heap.size + 1, 3, none⟩ (.slice none 0 0)).setCell ⟨w.heap.size + 1, 4, none⟩ (.slice none 0 0)).setCell ⟨w.heap.size + 1, 5, none⟩ (.slice none 0 0)).setCell ⟨w.heap.size + 1, 6, none⟩ (.slice none 0 0)).setCell ⟨w.heap.size + 1, 7, none⟩ (.slice none 0 0)).heap[w.heap.size + 1 + 1]? = some (.cells #[.bool false] 4 (0, 0)) := set8_other (set8_other HD2.out (by omega)) (by omega)
    have hkS : Keeps [w.heap.size + 1, w.heap.size + 1 + 1] w2 ((((((((((((((((w2.setCell ⟨w.heap.size + 1, 0, none⟩ (.slice a1 n1 c1)).setCell ⟨w.heap.size + 1, 1, none⟩ (.int .i64 k.E)).setCell ⟨w.heap.size + 1, 2, none⟩ (.slice a2 n2 c2)).setCell ⟨w.heap.size + 1, 3, none⟩ (.slice none 0 0)).setCell ⟨w.heap.size + 1, 4, none⟩ (.slice none 0 0)).setCell ⟨w.heap.size + 1, 5, none⟩ (.slice none 0 0)).setCell ⟨w.heap.size + 1, 6, none⟩ (.slice none 0 0)).setCell ⟨w.heap.size + 1, 7, none⟩ (.slice none 0 0)).setCell ⟨w.heap.size + 1, 0, none⟩ (.slice a1 n1 c1)).setCell ⟨w.heap.size + 1, 1, none⟩ (.int .i64 k.E)).setCell ⟨w.heap.size + 1, 2, none⟩ (.slice a2 n2 c2)).setCell ⟨w.heap.size + 1, 3, none⟩ (.slice none 0 0)).setCell ⟨w.heap.size + 1, 4, none⟩ (.slice none 0 0)).setCell ⟨w.heap.size + 1, 5, none⟩ (.slice none 0 0)).setCell ⟨w.heap.size + 1, 6, none⟩ (.slice none 0 0)).setCell ⟨w.heap.size + 1, 7, none⟩ (.slice none 0 0)) := set8_keeps (set8_keeps (Keeps.refl _ _) (by simp)) (by simp)
    have hkT : Keeps [] w ((((((((((((((((w2.setCell ⟨w.heap.size + 1, 0, none⟩ (.slice a1 n1 c1)).setCell ⟨w.heap.size + 1, 1, none⟩ (.int .i64 k.E)).setCell ⟨w.heap.size + 1, 2, none⟩ (.slice a2 n2 c2)).setCell ⟨w.heap.size + 1, 3, none⟩ (.slice none 0 0)).setCell ⟨w.heap.size + 1, 4, none⟩ (.slice none 0 0)).setCell ⟨w.heap.size + 1, 5, none⟩ (.slice none 0 0)).setCell ⟨w.heap.size + 1, 6, none⟩ (.slice none 0 0)).setCell ⟨w.heap.size + 1, 7, none⟩ (.slice none 0 0)).setCell ⟨w.heap.size + 1, 0, none⟩ (.slice a1 n1 c1)).setCell ⟨w.heap.size + 1, 1, none⟩ (.int .i64 k.E)).setCell ⟨w.heap.size + 1, 2, none⟩ (.slice a2 n2 c2)).setCell ⟨w.heap.size + 1, 3, none⟩ (.slice none 0 0)).setCell ⟨w.heap.size + 1, 4, none⟩ (.slice none 0 0)).setCell ⟨w.heap.size + 1, 5, none⟩ (.slice none 0 0)).setCell ⟨w.heap.size + 1, 6, none⟩ (.slice none 0 0)).setCell ⟨w.heap.size + 1, 7, none⟩ (.slice none 0 0)) := set8_keeps (set8_keeps HKK.out (by omega)) (by omega)
    have hbF : (((((((((((((((((w2.setCell ⟨w.heap.size + 1, 0, none⟩ (.slice a1 n1 c1)).setCell ⟨w.heap.size + 1, 1, none⟩ (.int .i64 k.E)).setCell ⟨w.heap.size + 1, 2, none⟩ (.slice a2 n2 c2)).setCell ⟨w.heap.size + 1, 3, none⟩ (.slice none 0 0)).setCell ⟨w.heap.size + 1, 4, none⟩ (.slice none 0 0)).setCell ⟨w.heap.size + 1, 5, none⟩ (.slice none 0 0)).setCell ⟨w.heap.size + 1, 6, none⟩ (.slice none 0 0)).setCell ⟨w.heap.size + 1, 7, none⟩ (.slice none 0 0)).setCell ⟨w.heap.size + 1, 0, none⟩ (.slice a1 n1 c1)).setCell ⟨w.heap.size + 1, 1, none⟩ (.int .i64 k.E)).setCell ⟨w.heap.size + 1, 2, none⟩ (.slice a2 n2 c2)).setCell ⟨w.heap.size + 1, 3, none⟩ (.slice none 0 0)).setCell ⟨w.heap.size + 1, 4, none⟩ (.slice none 0 0)).setCell ⟨w.heap.size + 1, 5, none⟩ (.slice none 0 0)).setCell ⟨w.heap.size + 1, 6, none⟩ (.slice none 0 0)).setCell ⟨w.heap.size + 1, 7, none⟩ (.slice none 0 0)).setCell ⟨w.heap.size + 1 + 1, 0, none⟩ (.bool true)).heap[w.heap.size + 1]? = some (.cells #[.slice a1 n1 c1, .int .i64 k.E, .slice a2 n2 c2, .slice none 0 0, .slice none 0 0, .slice none 0 0, .slice none 0 0, .slice none 0 0] 24 (0, 0)) := (Below.heap_setCell _ _ _ _ (by simp)).trans hbS
    have hdF : (((((((((((((((((w2.setCell ⟨w.heap.size + 1, 0, none⟩ (.slice a1 n1 c1)).setCell ⟨w.heap.size + 1, 1, none⟩ (.int .i64 k.E)).setCell ⟨w.heap.size + 1, 2, none⟩ (.slice a2 n2 c2)).setCell ⟨w.heap.size + 1, 3, none⟩ (.slice none 0 0)).setCell ⟨w.heap.size + 1, 4, none⟩ (.slice none 0 0)).setCell ⟨w.heap.size + 1, 5, none⟩ (.slice none 0 0)).setCell ⟨w.heap.size + 1, 6, none⟩ (.slice none 0 0)).setCell ⟨w.heap.size + 1, 7, none⟩ (.slice none 0 0)).setCell ⟨w.heap.size + 1, 0, none⟩ (.slice a1 n1 c1)).setCell ⟨w.heap.size + 1, 1, none⟩ (.int .i64 k.E)).setCell ⟨w.heap.size + 1, 2, none⟩ (.slice a2 n2 c2)).setCell ⟨w.heap.size + 1, 3, none⟩ (.slice none 0 0)).setCell ⟨w.heap.size + 1, 4, none⟩ (.slice none 0 0)).setCell ⟨w.heap.size + 1, 5, none⟩ (.slice none 0 0)).setCell ⟨w.heap.size + 1, 6, none⟩ (.slice none 0 0)).setCell ⟨w.heap.size + 1, 7, none⟩ (.slice none 0 0)).setCell ⟨w.heap.size + 1 + 1, 0, none⟩ (.bool true)).heap[w.heap.size + 1 + 1]? = some (.cells #[.bool true] 4 (0, 0)) := one_setCell hdS
    have hkF : Keeps [w.heap.size + 1, w.heap.size + 1 + 1] w2 (((((((((((((((((w2.setCell ⟨w.heap.size + 1, 0, none⟩ (.slice a1 n1 c1)).setCell ⟨w.heap.size + 1, 1, none⟩ (.int .i64 k.E)).setCell ⟨w.heap.size + 1, 2, none⟩ (.slice a2 n2 c2)).setCell ⟨w.heap.size + 1, 3, none⟩ (.slice none 0 0)).setCell ⟨w.heap.size + 1, 4, none⟩ (.slice none 0 0)).setCell ⟨w.heap.size + 1, 5, none⟩ (.slice none 0 0)).setCell ⟨w.heap.size + 1, 6, none⟩ (.slice none 0 0)).setCell ⟨w.heap.size + 1, 7, none⟩ (.slice none 0 0)).setCell ⟨w.heap.size + 1, 0, none⟩ (.slice a1 n1 c1)).setCell ⟨w.heap.size + 1, 1, none⟩ (.int .i64 k.E)).setCell ⟨w.heap.size + 1, 2, none⟩ (.slice a2 n2 c2)).setCell ⟨w.heap.size + 1, 3, none⟩ (.slice none 0 0)).setCell ⟨w.heap.size + 1, 4, none⟩ (.slice none 0 0)).setCell ⟨w.heap.size + 1, 5, none⟩ (.slice none 0 0)).setCell ⟨w.heap.size + 1, 6, none⟩ (.slice none 0 0)).setCell ⟨w.heap.size + 1, 7, none⟩ (.slice none 0 0)).setCell ⟨w.heap.size + 1 + 1, 0, none⟩ (.bool true)) := hkS.setCell (by simp) _
    have hkU : Keeps [] w (((((((((((((((((w2.setCell ⟨w.heap.size + 1, 0, none⟩ (.slice a1 n1 c1)).setCell ⟨w.heap.size + 1, 1, none⟩ (.int .i64 k.E)).setCell ⟨w.heap.size + 1, 2, none⟩ (.slice a2 n2 c2)).setCell ⟨w.heap.size + 1, 3, none⟩ (.slice none 0 0)).setCell ⟨w.heap.size + 1, 4, none⟩ (.slice none 0 0)).setCell ⟨w.heap.size + 1, 5, none⟩ (.slice none 0 0)).setCell ⟨w.heap.size + 1, 6, none⟩ (.slice none 0 0)).setCell ⟨w.heap.size + 1, 7, none⟩ (.slice none 0 0)).setCell ⟨w.heap.size + 1, 0, none⟩ (.slice a1 n1 c1)).setCell ⟨w.heap.size + 1, 1, none⟩ (.int .i64 k.E)).setCell ⟨w.heap.size + 1, 2, none⟩ (.slice a2 n2 c2)).setCell ⟨w.heap.size + 1, 3, none⟩ (.slice none 0 0)).setCell ⟨w.heap.size + 1, 4, none⟩ (.slice none 0 0)).setCell ⟨w.heap.size + 1, 5, none⟩ (.slice none 0 0)).setCell ⟨w.heap.size + 1, 6, none⟩ (.slice none 0 0)).setCell ⟨w.heap.size + 1, 7, none⟩ (.slice none 0 0)).setCell ⟨w.heap.size + 1 + 1, 0, none⟩ (.bool true)) := hkT.setCell (by simp; omega) _
    have HBF := Lib.hid hbF; have HDF := Lib.hid hdF; have HKF := Lib.hid hkF; have HKU := Lib.hid hkU
    clear hbS hdS hkS hkT hbF hdF hkF hkU
    go_wp2
    refine leaves_cons (f := 13) (args := #[.pointer (some ⟨w.heap.size + 1 + 1, 0, none⟩)]) (by simp) (by simp [go_sem]) ?_
    refine (kept_idle ⟨w.heap.size + 1 + 1, 0, none⟩ _).mono ?_
    rintro e u' w'' ⟨rfl, rfl, rfl⟩
    clear dd df k0 k1 k2 k3 k4 k5 k6 k7 e0 e1 e2 e3 e4 e5 e6 e7
    obtain ⟨wF, hwF⟩ : ∃ wF, wF = (((((((((((((((((w2.setCell ⟨w.heap.size + 1, 0, none⟩ (.slice a1 n1 c1)).setCell ⟨w.heap.size + 1, 1, none⟩ (.int .i64 k.E)).setCell ⟨w.heap.size + 1, 2, none⟩ (.slice a2 n2 c2)).setCell ⟨w.heap.size + 1, 3, none⟩ (.slice none 0 0)).setCell ⟨w.heap.size + 1, 4, none⟩ (.slice none 0 0)).setCell ⟨w.heap.size + 1, 5, none⟩ (.slice none 0 0)).setCell ⟨w.heap.size + 1, 6, none⟩ (.slice none 0 0)).setCell ⟨w.heap.size + 1, 7, none⟩ (.slice none 0 0)).setCell ⟨w.heap.size + 1, 0, none⟩ (.slice a1 n1 c1)).setCell ⟨w.heap.size + 1, 1, none⟩ (.int .i64 k.E)).setCell ⟨w.heap.size + 1, 2, none⟩ (.slice a2 n2 c2)).setCell ⟨w.heap.size + 1, 3, none⟩ (.slice none 0 0)).setCell ⟨w.heap.size + 1, 4, none⟩ (.slice none 0 0)).setCell ⟨w.heap.size + 1, 5, none⟩ (.slice none 0 0)).setCell ⟨w.heap.size + 1, 6, none⟩ (.slice none 0 0)).setCell ⟨w.heap.size + 1, 7, none⟩ (.slice none 0 0)).setCell ⟨w.heap.size + 1 + 1, 0, none⟩ (.bool true)) := ⟨_, rfl⟩
    rw [← hwF] at HBF HDF HKF HKU
    rw [← hwF]
    clear hwF
    obtain ⟨k0, k1, k2, k3, k4, k5, k6, k7⟩ := key8 HBF.out
    have dd := cell_of_one HDF.out
    simp [Leaves, settle, results, Try.results11, go_sem, dd, k0, k1, k2, k3, k4, k5, k6, k7]
    exact ⟨.inl ⟨HOK.out, _, _, rfl, G.out.1.keeps2 HKF.out HB2.out no_u8 HD2.out (no_u8b _), G.out.2.keeps2 HKF.out HB2.out no_u8 HD2.out (no_u8b _)⟩, HKU.out⟩
  · have hb2 := blk_keeps HB.out h1 (by simp)
    have hd2 := blk_keeps HD.out h1 (by simp)
    have HKK := Lib.hid (HK.out.trans1 h1)
    have dd := cell_of_one hd2
    have df := free_of_one hd2
    obtain ⟨k0, k1, k2, k3, k4, k5, k6, k7⟩ := key8 hb2
    have ff : ∀ j, w1.frozen? ⟨w.heap.size + 1, j, none⟩ = false := fun j => by simp [World.frozen?, hb2]
    have e0 := ff 0; have e1 := ff 1; have e2 := ff 2; have e3 := ff 3; have e4 := ff 4; have e5 := ff 5; have e6 := ff 6; have e7 := ff 7
    have hbS : ((((((((w1.setCell ⟨w.heap.size + 1, 0, none⟩ (.slice none 0 0)).setCell ⟨w.heap.size + 1, 1, none⟩ (.int .i64 0)).setCell ⟨w.heap.size + 1, 2, none⟩ (.slice none 0 0)).setCell ⟨w.heap.size + 1, 3, none⟩ (.slice none 0 0)).setCell ⟨w.heap.size + 1, 4, none⟩ (.slice none 0 0)).setCell ⟨w.heap.size + 1, 5, none⟩ (.slice none 0 0)).setCell ⟨w.heap.size + 1, 6, none⟩ (.slice none 0 0)).setCell ⟨w.heap.size + 1, 7, none⟩ (.slice none 0 0)).heap[w.heap.size + 1]? = some (.cells #[.slice none 0 0, .int .i64 0, .slice none 0 0, .slice none 0 0, .slice none 0 0, .slice none 0 0, .slice none 0 0, .slice none 0 0] 24 (0, 0)) := set8 hb2
    have hdS : ((((((((w1.setCell ⟨w.heap.size + 1, 0, none⟩ (.slice none 0 0)).setCell ⟨w.heap.size + 1, 1, none⟩ (.int .i64 0)).setCell ⟨w.heap.size + 1, 2, none⟩ (.slice none 0 0)).setCell ⟨w.heap.size + 1, 3, none⟩ (.slice none 0 0)).setCell ⟨w.heap.size + 1, 4, none⟩ (.slice none 0 0)).setCell ⟨w.heap.size + 1, 5, none⟩ (.slice none 0 0)).setCell ⟨w.heap.size + 1, 6, none⟩ (.slice none 0 0)).setCell ⟨w.heap.size + 1, 7, none⟩ (.slice none 0 0)).heap[w.heap.size + 1 + 1]? = some (.cells #[.bool false] 4 (0, 0)) := set8_other hd2 (by omega)
    have hkT : Keeps [] w ((((((((w1.setCell ⟨w.heap.size + 1, 0, none⟩ (.slice none 0 0)).setCell ⟨w.heap.size + 1, 1, none⟩ (.int .i64 0)).setCell ⟨w.heap.size + 1, 2, none⟩ (.slice none 0 0)).setCell ⟨w.heap.size + 1, 3, none⟩ (.slice none 0 0)).setCell ⟨w.heap.size + 1, 4, none⟩ (.slice none 0 0)).setCell ⟨w.heap.size + 1, 5, none⟩ (.slice none 0 0)).setCell ⟨w.heap.size + 1, 6, none⟩ (.slice none 0 0)).setCell ⟨w.heap.size + 1, 7, none⟩ (.slice none 0 0)) := set8_keeps HKK.out (by omega)
    have hbF : (((((((((w1.setCell ⟨w.heap.size + 1, 0, none⟩ (.slice none 0 0)).setCell ⟨w.heap.size + 1, 1, none⟩ (.int .i64 0)).setCell ⟨w.heap.size + 1, 2, none⟩ (.slice none 0 0)).setCell ⟨w.heap.size + 1, 3, none⟩ (.slice none 0 0)).setCell ⟨w.heap.size + 1, 4, none⟩ (.slice none 0 0)).setCell ⟨w.heap.size + 1, 5, none⟩ (.slice none 0 0)).setCell ⟨w.heap.size + 1, 6, none⟩ (.slice none 0 0)).setCell ⟨w.heap.size + 1, 7, none⟩ (.slice none 0 0)).setCell ⟨w.heap.size + 1 + 1, 0, none⟩ (.bool false)).heap[w.heap.size + 1]? = some (.cells #[.slice none 0 0, .int .i64 0, .slice none 0 0, .slice none 0 0, .slice none 0 0, .slice none 0 0, .slice none 0 0, .slice none 0 0] 24 (0, 0)) := (Below.heap_setCell _ _ _ _ (by simp)).trans hbS
    have hdF : (((((((((w1.setCell ⟨w.heap.size + 1, 0, none⟩ (.slice none 0 0)).setCell ⟨w.heap.size + 1, 1, none⟩ (.int .i64 0)).setCell ⟨w.heap.size + 1, 2, none⟩ (.slice none 0 0)).setCell ⟨w.heap.size + 1, 3, none⟩ (.slice none 0 0)).setCell ⟨w.heap.size + 1, 4, none⟩ (.slice none 0 0)).setCell ⟨w.heap.size + 1, 5, none⟩ (.slice none 0 0)).setCell ⟨w.heap.size + 1, 6, none⟩ (.slice none 0 0)).setCell ⟨w.heap.size + 1, 7, none⟩ (.slice none 0 0)).setCell ⟨w.heap.size + 1 + 1, 0, none⟩ (.bool false)).heap[w.heap.size + 1 + 1]? = some (.cells #[.bool false] 4 (0, 0)) := one_setCell hdS
    have hkU : Keeps [] w (((((((((w1.setCell ⟨w.heap.size + 1, 0, none⟩ (.slice none 0 0)).setCell ⟨w.heap.size + 1, 1, none⟩ (.int .i64 0)).setCell ⟨w.heap.size + 1, 2, none⟩ (.slice none 0 0)).setCell ⟨w.heap.size + 1, 3, none⟩ (.slice none 0 0)).setCell ⟨w.heap.size + 1, 4, none⟩ (.slice none 0 0)).setCell ⟨w.heap.size + 1, 5, none⟩ (.slice none 0 0)).setCell ⟨w.heap.size + 1, 6, none⟩ (.slice none 0 0)).setCell ⟨w.heap.size + 1, 7, none⟩ (.slice none 0 0)).setCell ⟨w.heap.size + 1 + 1, 0, none⟩ (.bool false)) := hkT.setCell (by simp; omega) _
    have HBF := Lib.hid hbF; have HDF := Lib.hid hdF; have HKU := Lib.hid hkU
    have HNO := Lib.hid hno
    clear hbS hdS hkT hbF hdF hkU hb2 hd2 h1 ff hno
    go_wp2
    refine leaves_cons (f := 13) (args := #[.pointer (some ⟨w.heap.size + 1 + 1, 0, none⟩)]) (by simp) (by simp [go_sem]) ?_
    refine (kept_idle ⟨w.heap.size + 1 + 1, 0, none⟩ _).mono ?_
    rintro e u' w'' ⟨rfl, rfl, rfl⟩
    clear dd df k0 k1 k2 k3 k4 k5 k6 k7 e0 e1 e2 e3 e4 e5 e6 e7
    obtain ⟨wF, hwF⟩ : ∃ wF, wF = (((((((((w1.setCell ⟨w.heap.size + 1, 0, none⟩ (.slice none 0 0)).setCell ⟨w.heap.size + 1, 1, none⟩ (.int .i64 0)).setCell ⟨w.heap.size + 1, 2, none⟩ (.slice none 0 0)).setCell ⟨w.heap.size + 1, 3, none⟩ (.slice none 0 0)).setCell ⟨w.heap.size + 1, 4, none⟩ (.slice none 0 0)).setCell ⟨w.heap.size + 1, 5, none⟩ (.slice none 0 0)).setCell ⟨w.heap.size + 1, 6, none⟩ (.slice none 0 0)).setCell ⟨w.heap.size + 1, 7, none⟩ (.slice none 0 0)).setCell ⟨w.heap.size + 1 + 1, 0, none⟩ (.bool false)) := ⟨_, rfl⟩
    rw [← hwF] at HBF HDF HKU
    rw [← hwF]
    clear hwF
    obtain ⟨k0, k1, k2, k3, k4, k5, k6, k7⟩ := key8 HBF.out
    have dd := cell_of_one HDF.out
    simp [Leaves, settle, results, Try.results11, go_sem, dd, k0, k1, k2, k3, k4, k5, k6, k7]
    exact ⟨.inr ⟨HNO.out, rfl⟩, HKU.out⟩

end Go.Proofs.Ytnfjmngchapdnaa
