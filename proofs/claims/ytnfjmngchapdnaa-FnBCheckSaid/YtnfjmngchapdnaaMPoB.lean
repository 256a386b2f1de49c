import Derived.Test.YtnfjmngchapdnaaMBpD
import Derived.Test.YtnfjmngchapdnaaMBCheck
import Derived.Test.YtnfjmngchapdnaaMBIs
import Derived.Test.YtnfjmngchapdnaaMPubIs
/- spec.BPrivateOf by each way. -/
namespace Go.Proofs.Ytnfjmngchapdnaa
open Go.RowKit


/-- What BPrivateOf returns of a bare key. -/
def BPB (e : Ending) (w' : World) (ok : Prop) (NV DV : Nat) : Prop :=
  ∃ (a0 a1 a2 a3 a4 a5 a6 : Option Addr) (n0 c0 n1 c1 n2 c2 n3 c3 n4 c4 n5 c5 n6 c6 : Nat) (bi bs : Bool),
    e = .returned (.tuple #[.agg #[.slice a0 n0 c0, .slice a1 n1 c1, .slice a2 n2 c2, .slice a3 n3 c3, .slice a4 n4 c4, .slice a5 n5 c5, .slice a6 n6 c6], .bool bi, .bool bs]) ∧ (bs = true ↔ True) ∧ (bi = true ↔ ok) ∧ (ok → Num 63 w' a0 n0 c0 NV ∧ Num 63 w' a1 n1 c1 DV)
def bpPostB (w0 : World) (ok : Prop) (NV DV : Nat) (e : Ending) (w' : World) : Prop := BPB e w' ok NV DV ∧ Keeps [] w0 w'

set_option maxRecDepth 1000000 in
set_option maxHeartbeats 8000000 in
theorem privOf_bare (k : KA) (w : World) (hk : k.is w) (ht : k.tidy) :
    Calls Try.prog 10 #[.agg #[.slice k.a1 k.m1 k.c1, .int .i64 k.E, .slice k.a2 k.m2 k.c2, .slice k.a3 k.m3 k.c3, .slice k.a4 k.m4 k.c4, .slice k.a5 k.m5 k.c5, .slice k.a6 k.m6 k.c6, .slice k.a7 k.m7 k.c7], .int .i64 2] w (bpPostB w (BareOk (bval k.L1) (bval k.L2) k.E) (bval k.L1) (bval k.L2)) := by
  have hb0 : ((w.alloc (.cells #[.slice k.a1 k.m1 k.c1, .int .i64 k.E, .slice k.a2 k.m2 k.c2, .slice k.a3 k.m3 k.c3, .slice k.a4 k.m4 k.c4, .slice k.a5 k.m5 k.c5, .slice k.a6 k.m6 k.c6, .slice k.a7 k.m7 k.c7] 24)).alloc (.cells #[.slice none 0 0, .slice none 0 0, .slice none 0 0, .slice none 0 0, .slice none 0 0, .slice none 0 0, .slice none 0 0] 31)).heap[w.heap.size]? = some (.cells #[Value.slice k.a1 k.m1 k.c1, .int .i64 k.E, .slice k.a2 k.m2 k.c2, .slice k.a3 k.m3 k.c3, .slice k.a4 k.m4 k.c4, .slice k.a5 k.m5 k.c5, .slice k.a6 k.m6 k.c6, .slice k.a7 k.m7 k.c7] 24 (0, 0)) := by
    show ((w.heap.push _).push _)[w.heap.size]? = _
    rw [Array.getElem?_push, if_neg (by simp), Array.getElem?_push, if_pos (by simp)]
  have hx0 : ((w.alloc (.cells #[.slice k.a1 k.m1 k.c1, .int .i64 k.E, .slice k.a2 k.m2 k.c2, .slice k.a3 k.m3 k.c3, .slice k.a4 k.m4 k.c4, .slice k.a5 k.m5 k.c5, .slice k.a6 k.m6 k.c6, .slice k.a7 k.m7 k.c7] 24)).alloc (.cells #[.slice none 0 0, .slice none 0 0, .slice none 0 0, .slice none 0 0, .slice none 0 0, .slice none 0 0, .slice none 0 0] 31)).heap[w.heap.size + 1]? = some (.cells #[.slice none 0 0, .slice none 0 0, .slice none 0 0, .slice none 0 0, .slice none 0 0, .slice none 0 0, .slice none 0 0] 31 (0, 0)) := by
    show ((w.heap.push _).push _)[w.heap.size + 1]? = _
    rw [Array.getElem?_push, if_pos (by simp)]
  have hk0 : Keeps [] w ((w.alloc (.cells #[.slice k.a1 k.m1 k.c1, .int .i64 k.E, .slice k.a2 k.m2 k.c2, .slice k.a3 k.m3 k.c3, .slice k.a4 k.m4 k.c4, .slice k.a5 k.m5 k.c5, .slice k.a6 k.m6 k.c6, .slice k.a7 k.m7 k.c7] 24)).alloc (.cells #[.slice none 0 0, .slice none 0 0, .slice none 0 0, .slice none 0 0, .slice none 0 0, .slice none 0 0, .slice none 0 0] 31)) := ((Keeps.refl _ _).alloc _).alloc _
  obtain ⟨wa, hwa⟩ : ∃ wa, wa = ((w.alloc (.cells #[.slice k.a1 k.m1 k.c1, .int .i64 k.E, .slice k.a2 k.m2 k.c2, .slice k.a3 k.m3 k.c3, .slice k.a4 k.m4 k.c4, .slice k.a5 k.m5 k.c5, .slice k.a6 k.m6 k.c6, .slice k.a7 k.m7 k.c7] 24)).alloc (.cells #[.slice none 0 0, .slice none 0 0, .slice none 0 0, .slice none 0 0, .slice none 0 0, .slice none 0 0, .slice none 0 0] 31)) := ⟨_, rfl⟩
  rw [← hwa] at hb0 hx0 hk0
  have HKB := Lib.hid hb0; have HX := Lib.hid hx0; have HK := Lib.hid hk0; have HI := Lib.hid (hk.kept hk0); have HT := Lib.hid ht
  have hE := hk.E
  have q1 := hk.s1.1; have q2 := hk.s2.1; have q3 := hk.s3.1; have q4 := hk.s4.1
  have r1 := ht.t1.1; have r2 := ht.t2.1; have r3 := ht.t3.1; have r4 := ht.t4.1
  clear hb0 hx0 hk0 hk ht
  go_enter Try.func10, Try.ntmps10
  go_wp2_with fail
  rw [← hwa]
  clear hwa
  have mkS : ∀ w', Keeps [w.heap.size + 1] wa w' → ((convert 22 9 (.slice k.a1 k.m1 k.c1)).run Try.prog w' = .ok (.string (strB k.L1)) w' ∧ (convert 22 9 (.slice k.a2 k.m2 k.c2)).run Try.prog w' = .ok (.string (strB k.L2)) w') ∧ (w'.cell? ⟨w.heap.size, 0, none⟩ = some (.slice k.a1 k.m1 k.c1) ∧ w'.cell? ⟨w.heap.size, 2, none⟩ = some (.slice k.a2 k.m2 k.c2)) := fun w' hk => by
    have hb8 := key8 (blk_keeps HKB.out hk (by simp))
    have no8 : ∀ (j : Nat) (y : Int), (#[.slice none 0 0, .slice none 0 0, .slice none 0 0, .slice none 0 0, .slice none 0 0, .slice none 0 0, .slice none 0 0] : Array Value)[j]? ≠ some (.int .u8 y) := by
      intro j y h
      have h2 : j < 7 := (Array.getElem?_eq_some_iff.1 h).1
      obtain rfl | rfl | rfl | rfl | rfl | rfl | rfl : j = 0 ∨ j = 1 ∨ j = 2 ∨ j = 3 ∨ j = 4 ∨ j = 5 ∨ j = 6 := by omega
      all_goals simp at h
    have kk : ∀ {a : Option Addr} {m c : Nat} {L : List Nat}, SlB wa a m c L → SlB w' a m c L := fun h => h.keeps' hk (fun b o hL hB => by simpa using hB.ne_cells hL HX.out no8)
    exact ⟨⟨convert_strB (kk HI.out.s1), convert_strB (kk HI.out.s2)⟩, hb8.1, hb8.2.2.1⟩
  have MKS := Lib.hid mkS
  clear mkS
  have hS0 := MKS.out wa.drew (Keeps.refl _ _).drew
  refine wp_region_txt [0,0,0,2,0,0,0,2,0,2,0,2] (fun w' => ((convert 22 9 (.slice k.a1 k.m1 k.c1)).run Try.prog w' = .ok (.string (strB k.L1)) w' ∧ (convert 22 9 (.slice k.a2 k.m2 k.c2)).run Try.prog w' = .ok (.string (strB k.L2)) w') ∧ (w'.cell? ⟨w.heap.size, 0, none⟩ = some (.slice k.a1 k.m1 k.c1) ∧ w'.cell? ⟨w.heap.size, 2, none⟩ = some (.slice k.a2 k.m2 k.c2))) (by kernel_rfl) (by kernel_rfl) hS0 ?_
  obtain ⟨⟨g5, g6⟩, k5, k6⟩ := hS0
  simp only [withMarks]
  repeat (first
    | ((with_reducible refine txt_v (v := ?_) ?_ ?_); (any_goals ((with_reducible refine Yl.mk ?_ ?_); rfl; intro w hSw; (go_simp <;> (try go_bits) <;> (repeat (first | rw [if_pos (by omega)] | rw [if_neg (by omega)])) <;> with_reducible rfl))); try simp only [Act.put, List.setIfInBounds_toArray, List.set_cons_zero, List.set_cons_succ])
    | ((with_reducible refine txt_u ?_ ?_); rfl; try simp only [Act.put, List.setIfInBounds_toArray, List.set_cons_zero, List.set_cons_succ])
    | ((with_reducible refine txt_l (v := ?_) ?_ ?_); (any_goals ((with_reducible refine Reads.mk ?_ ?_); rfl; (go_simp <;> (try go_bits) <;> (repeat (first | rw [if_pos (by omega)] | rw [if_neg (by omega)])) <;> with_reducible rfl))); try simp only [Act.put, List.setIfInBounds_toArray, List.set_cons_zero, List.set_cons_succ])
    | ((with_reducible refine txt_e ?_ ?_); rfl; intro K hK; go_simp; (first | (refine hK _ _ (by first | exact MKS.out _ (((((Keeps.refl [] wa).drew.trans1 h1).trans1 h2).mono (by simp)).setCell (by simp) _ |>.setCell (by simp) _) | exact MKS.out _ (((((Keeps.refl [] wa).drew.trans1 h1).trans1 h2).mono (by simp)).setCell (by simp) _) | exact MKS.out _ (((Keeps.refl [] wa).drew.trans1 h1).trans1 h2 |>.mono (by simp)) | exact MKS.out _ ((Keeps.refl [] wa).drew.trans1 h1 |>.mono (by simp)) | exact ⟨⟨g5, g6⟩, k5, k6⟩) ?_) | ((first | (go_at_call 15; (with_reducible refine Calls.mono (num_of (w := wa) (L := k.L2) HI.out.s2 (by omega)) ?_); rintro e2 wv ⟨⟨a1, n1, c1, rfl, hy⟩, h2⟩; have HXv := Lib.hid (blk_keeps HX.out (((Keeps.refl [] wa).drew.trans1 h1).trans1 h2) (by simp)); obtain ⟨m0, m1, m2, m3, m4, m5, m6⟩ := key7 HXv.out; have ff : ∀ j, wv.frozen? ⟨w.heap.size + 1, j, none⟩ = false := (fun j => by simp [World.frozen?, HXv.out]); have f0 := ff 0; have f1 := ff 1; have f2 := ff 2; have f3 := ff 3; clear ff) | (go_at_call 15; (with_reducible refine Calls.mono (num_of (w := wa) (L := k.L1) HI.out.s1 (by omega)) ?_); rintro e1 wu ⟨⟨a0, n0, c0, rfl, hx⟩, h1⟩)); dsimp only; refine hK _ _ (by first | exact MKS.out _ (((((Keeps.refl [] wa).drew.trans1 h1).trans1 h2).mono (by simp)).setCell (by simp) _ |>.setCell (by simp) _) | exact MKS.out _ (((((Keeps.refl [] wa).drew.trans1 h1).trans1 h2).mono (by simp)).setCell (by simp) _) | exact MKS.out _ (((Keeps.refl [] wa).drew.trans1 h1).trans1 h2 |>.mono (by simp)) | exact MKS.out _ ((Keeps.refl [] wa).drew.trans1 h1 |>.mono (by simp)) | exact ⟨⟨g5, g6⟩, k5, k6⟩) ?_)); clear hK K; try simp only [Act.put, List.setIfInBounds_toArray, List.set_cons_zero, List.set_cons_succ]))
  refine txt_nil ?_
  clear m0 m1 m2 m3 m4 m5 m6 f0 f1 f2 f3 g5 g6 k5 k6
  have hs : Keeps [] wa wv := ((Keeps.refl [] wa).drew.trans1 h1).trans1 h2
  have hk2 : Keeps [w.heap.size + 1] wv ((wv.setCell ⟨w.heap.size + 1, 0, none⟩ (.slice a0 n0 c0)).setCell ⟨w.heap.size + 1, 1, none⟩ (.slice a1 n1 c1)) := ((Keeps.refl _ _).setCell (by simp) _).setCell (by simp) _
  have hk3 : Keeps [] w ((wv.setCell ⟨w.heap.size + 1, 0, none⟩ (.slice a0 n0 c0)).setCell ⟨w.heap.size + 1, 1, none⟩ (.slice a1 n1 c1)) := ((HK.out.trans1 hs).setCell (fun h => absurd h (by simp)) _).setCell (fun h => absurd h (by simp)) _
  have hxx : ((wv.setCell ⟨w.heap.size + 1, 0, none⟩ (.slice a0 n0 c0)).setCell ⟨w.heap.size + 1, 1, none⟩ (.slice a1 n1 c1)).heap[w.heap.size + 1]? = some (.cells #[.slice a0 n0 c0, .slice a1 n1 c1, .slice none 0 0, .slice none 0 0, .slice none 0 0, .slice none 0 0, .slice none 0 0] 31 (0, 0)) := MHdr.modify (C := #[.slice a0 n0 c0, .slice none 0 0, .slice none 0 0, .slice none 0 0, .slice none 0 0, .slice none 0 0, .slice none 0 0]) (MHdr.modify HXv.out (by simp)) (by simp)
  obtain ⟨wb, hw2⟩ : ∃ wb, wb = ((wv.setCell ⟨w.heap.size + 1, 0, none⟩ (.slice a0 n0 c0)).setCell ⟨w.heap.size + 1, 1, none⟩ (.slice a1 n1 c1)) := ⟨_, rfl⟩
  rw [← hw2] at hk2 hk3 hxx
  rw [← hw2]
  clear hw2
  have no8 : ∀ (j : Nat) (y : Int), (#[.slice none 0 0, .slice none 0 0, .slice none 0 0, .slice none 0 0, .slice none 0 0, .slice none 0 0, .slice none 0 0] : Array Value)[j]? ≠ some (.int .u8 y) := by
    intro j y h
    have h2 : j < 7 := (Array.getElem?_eq_some_iff.1 h).1
    obtain rfl | rfl | rfl | rfl | rfl | rfl | rfl : j = 0 ∨ j = 1 ∨ j = 2 ∨ j = 3 ∨ j = 4 ∨ j = 5 ∨ j = 6 := by omega
    all_goals simp at h
  have kk : ∀ {a : Option Addr} {m c : Nat} {L : List Nat}, SlB wv a m c L → SlB wb a m c L := fun h => h.keeps' hk2 (fun b o hL hB => by simpa using hB.ne_cells hL HXv.out no8)
  have iv := HI.out.kept hs
  have NM : ∀ {q : Nat} {a : Option Addr} {n c x : Nat}, Num q wv a n c x → Num q wb a n c x := fun h => h.keepsB hk2 HXv.out (no_u32 _ _ _ _ _ _ _ _ _ _ _ _ _ _ _ _ _ _ _ _ _)
  replace HKB := Lib.hid (blk_keeps (blk_keeps HKB.out hs (by simp)) hk2 (by simp))
  replace HI : Hid (k.is wb) := Lib.hid ⟨kk iv.s1, kk iv.s2, kk iv.s3, kk iv.s4, kk iv.s5, kk iv.s6, kk iv.s7, iv.E⟩

  have H0 := Lib.hid (NM (hx.kept h2)); have H1 := Lib.hid (NM hy)
  replace HX := Lib.hid hxx; replace HK := Lib.hid hk3
  clear hk2 hk3 hxx hs h1 h2 hx hy no8 kk iv NM MKS HXv
  obtain ⟨k0, k1, k2, k3, k4, k5, k6, k7⟩ := key8 HKB.out
  obtain ⟨m0, m1, _, _, _, _, _⟩ := key7 HX.out
  go_wp2_with fail
  refine (bPublicIs_any k.a1 k.m1 k.c1 k.L1 k.E k.a2 k.a3 k.a4 k.a5 k.a6 k.a7 k.m2 k.c2 k.m3 k.c3 k.m4 k.c4 k.m5 k.c5 k.m6 k.c6 k.m7 k.c7 _ HI.out.s1 (by omega) hE).mono ?_
  rintro e wc ⟨⟨b, rfl, hb⟩, hs⟩
  clear k0 k1 k2 k3 k4 k5 k6 k7 m0 m1
  replace HKB := Lib.hid (blk_keeps HKB.out hs (by simp)); replace HX := Lib.hid (blk_keeps HX.out hs (by simp)); replace HK := Lib.hid (HK.out.trans1 hs); replace HI := Lib.hid (HI.out.kept hs)
  replace H0 := Lib.hid (H0.out.kept hs); replace H1 := Lib.hid (H1.out.kept hs)
  clear hs
  cases b
  · have HNP : Hid (¬ (1 < bval k.L1 ∧ PubOk (bval k.L1) k.E)) := Lib.hid fun h => by have := hb.2 h; simp at this
    clear hb
    have hx0 : (((((((wc.setCell ⟨w.heap.size + 1, 0, none⟩ (.slice a0 n0 c0)).setCell ⟨w.heap.size + 1, 1, none⟩ (.slice a1 n1 c1)).setCell ⟨w.heap.size + 1, 2, none⟩ (.slice none 0 0)).setCell ⟨w.heap.size + 1, 3, none⟩ (.slice none 0 0)).setCell ⟨w.heap.size + 1, 4, none⟩ (.slice none 0 0)).setCell ⟨w.heap.size + 1, 5, none⟩ (.slice none 0 0)).setCell ⟨w.heap.size + 1, 6, none⟩ (.slice none 0 0)).heap[w.heap.size + 1]? = some (.cells #[.slice a0 n0 c0, .slice a1 n1 c1, .slice none 0 0, .slice none 0 0, .slice none 0 0, .slice none 0 0, .slice none 0 0] 31 (0, 0)) := set7 HX.out
    have hk0 : Keeps [] w (((((((wc.setCell ⟨w.heap.size + 1, 0, none⟩ (.slice a0 n0 c0)).setCell ⟨w.heap.size + 1, 1, none⟩ (.slice a1 n1 c1)).setCell ⟨w.heap.size + 1, 2, none⟩ (.slice none 0 0)).setCell ⟨w.heap.size + 1, 3, none⟩ (.slice none 0 0)).setCell ⟨w.heap.size + 1, 4, none⟩ (.slice none 0 0)).setCell ⟨w.heap.size + 1, 5, none⟩ (.slice none 0 0)).setCell ⟨w.heap.size + 1, 6, none⟩ (.slice none 0 0)) := set7_keeps HK.out (by omega)
    have hk1 : Keeps [w.heap.size + 1] wc (((((((wc.setCell ⟨w.heap.size + 1, 0, none⟩ (.slice a0 n0 c0)).setCell ⟨w.heap.size + 1, 1, none⟩ (.slice a1 n1 c1)).setCell ⟨w.heap.size + 1, 2, none⟩ (.slice none 0 0)).setCell ⟨w.heap.size + 1, 3, none⟩ (.slice none 0 0)).setCell ⟨w.heap.size + 1, 4, none⟩ (.slice none 0 0)).setCell ⟨w.heap.size + 1, 5, none⟩ (.slice none 0 0)).setCell ⟨w.heap.size + 1, 6, none⟩ (.slice none 0 0)) := set7_keeps (Keeps.refl _ _) (by simp)
    obtain ⟨k0, k1, k2, k3, k4, k5, k6⟩ := key7 HX.out
    have ff : ∀ j, wc.frozen? ⟨w.heap.size + 1, j, none⟩ = false := fun j => by simp [World.frozen?, HX.out]
    have f0 := ff 0; have f1 := ff 1; have f2 := ff 2; have f3 := ff 3; have f4 := ff 4; have f5 := ff 5; have f6 := ff 6
    have HX0 := Lib.hid hx0; have HK0 := Lib.hid hk0; have HKK := Lib.hid hk1
    clear ff hx0 hk0 hk1
    go_wp2
    obtain ⟨wF, hwF⟩ : ∃ wF, wF = (((((((wc.setCell ⟨w.heap.size + 1, 0, none⟩ (.slice a0 n0 c0)).setCell ⟨w.heap.size + 1, 1, none⟩ (.slice a1 n1 c1)).setCell ⟨w.heap.size + 1, 2, none⟩ (.slice none 0 0)).setCell ⟨w.heap.size + 1, 3, none⟩ (.slice none 0 0)).setCell ⟨w.heap.size + 1, 4, none⟩ (.slice none 0 0)).setCell ⟨w.heap.size + 1, 5, none⟩ (.slice none 0 0)).setCell ⟨w.heap.size + 1, 6, none⟩ (.slice none 0 0)) := ⟨_, rfl⟩
    rw [← hwF] at HX0 HK0 HKK
    rw [← hwF]
    clear hwF k0 k1 k2 k3 k4 k5 k6 f0 f1 f2 f3 f4 f5 f6
    obtain ⟨k0, k1, k2, k3, k4, k5, k6⟩ := key7 HX0.out
    refine bodyPost_ret (v := .tuple #[.agg #[.slice a0 n0 c0, .slice a1 n1 c1, .slice none 0 0, .slice none 0 0, .slice none 0 0, .slice none 0 0, .slice none 0 0], .bool false, .bool true]) (by simp [results, Try.results10, go_sem, k0, k1, k2, k3, k4, k5, k6]) rfl ⟨⟨a0, a1, none, none, none, none, none, n0, c0, n1, c1, 0, 0, 0, 0, 0, 0, 0, 0, 0, 0, false, true, rfl, ⟨fun _ => trivial, fun _ => rfl⟩, by simp only [Bool.false_eq_true, false_iff]; exact fun h => HNP.out ⟨h.1, h.2.1⟩, fun h => absurd h (fun h => HNP.out ⟨h.1, h.2.1⟩)⟩, HK0.out⟩
  have HPU := Lib.hid (hb.1 rfl)
  clear hb
  obtain ⟨m0, m1, _, _, _, _, _⟩ := key7 HX.out
  go_wp2_with fail
  by_cases hlt : bval k.L2 < bval k.L1
  rotate_left
  · refine (num_nlt H1.out H0.out (by omega) (by omega) hlt).mono ?_
    rintro e wd ⟨⟨o, rfl, fo, fo2⟩, hs⟩
    replace HX := Lib.hid (blk_keeps HX.out hs (by simp)); replace HK := Lib.hid (HK.out.trans1 hs)
    have HLT := Lib.hid hlt
    clear hs hlt m0 m1
    have hx0 : (((((((wd.setCell ⟨w.heap.size + 1, 0, none⟩ (.slice a0 n0 c0)).setCell ⟨w.heap.size + 1, 1, none⟩ (.slice a1 n1 c1)).setCell ⟨w.heap.size + 1, 2, none⟩ (.slice none 0 0)).setCell ⟨w.heap.size + 1, 3, none⟩ (.slice none 0 0)).setCell ⟨w.heap.size + 1, 4, none⟩ (.slice none 0 0)).setCell ⟨w.heap.size + 1, 5, none⟩ (.slice none 0 0)).setCell ⟨w.heap.size + 1, 6, none⟩ (.slice none 0 0)).heap[w.heap.size + 1]? = some (.cells #[.slice a0 n0 c0, .slice a1 n1 c1, .slice none 0 0, .slice none 0 0, .slice none 0 0, .slice none 0 0, .slice none 0 0] 31 (0, 0)) := set7 HX.out
    have hk0 : Keeps [] w (((((((wd.setCell ⟨w.heap.size + 1, 0, none⟩ (.slice a0 n0 c0)).setCell ⟨w.heap.size + 1, 1, none⟩ (.slice a1 n1 c1)).setCell ⟨w.heap.size + 1, 2, none⟩ (.slice none 0 0)).setCell ⟨w.heap.size + 1, 3, none⟩ (.slice none 0 0)).setCell ⟨w.heap.size + 1, 4, none⟩ (.slice none 0 0)).setCell ⟨w.heap.size + 1, 5, none⟩ (.slice none 0 0)).setCell ⟨w.heap.size + 1, 6, none⟩ (.slice none 0 0)) := set7_keeps HK.out (by omega)
    have hk1 : Keeps [w.heap.size + 1] wd (((((((wd.setCell ⟨w.heap.size + 1, 0, none⟩ (.slice a0 n0 c0)).setCell ⟨w.heap.size + 1, 1, none⟩ (.slice a1 n1 c1)).setCell ⟨w.heap.size + 1, 2, none⟩ (.slice none 0 0)).setCell ⟨w.heap.size + 1, 3, none⟩ (.slice none 0 0)).setCell ⟨w.heap.size + 1, 4, none⟩ (.slice none 0 0)).setCell ⟨w.heap.size + 1, 5, none⟩ (.slice none 0 0)).setCell ⟨w.heap.size + 1, 6, none⟩ (.slice none 0 0)) := set7_keeps (Keeps.refl _ _) (by simp)
    obtain ⟨k0, k1, k2, k3, k4, k5, k6⟩ := key7 HX.out
    have ff : ∀ j, wd.frozen? ⟨w.heap.size + 1, j, none⟩ = false := fun j => by simp [World.frozen?, HX.out]
    have f0 := ff 0; have f1 := ff 1; have f2 := ff 2; have f3 := ff 3; have f4 := ff 4; have f5 := ff 5; have f6 := ff 6
    have HX0 := Lib.hid hx0; have HK0 := Lib.hid hk0; have HKK := Lib.hid hk1
    clear ff hx0 hk0 hk1
    go_wp2
    obtain ⟨wF, hwF⟩ : ∃ wF, wF = (((((((wd.setCell ⟨w.heap.size + 1, 0, none⟩ (.slice a0 n0 c0)).setCell ⟨w.heap.size + 1, 1, none⟩ (.slice a1 n1 c1)).setCell ⟨w.heap.size + 1, 2, none⟩ (.slice none 0 0)).setCell ⟨w.heap.size + 1, 3, none⟩ (.slice none 0 0)).setCell ⟨w.heap.size + 1, 4, none⟩ (.slice none 0 0)).setCell ⟨w.heap.size + 1, 5, none⟩ (.slice none 0 0)).setCell ⟨w.heap.size + 1, 6, none⟩ (.slice none 0 0)) := ⟨_, rfl⟩
    rw [← hwF] at HX0 HK0 HKK
    rw [← hwF]
    clear hwF k0 k1 k2 k3 k4 k5 k6 f0 f1 f2 f3 f4 f5 f6
    obtain ⟨k0, k1, k2, k3, k4, k5, k6⟩ := key7 HX0.out
    refine bodyPost_ret (v := .tuple #[.agg #[.slice a0 n0 c0, .slice a1 n1 c1, .slice none 0 0, .slice none 0 0, .slice none 0 0, .slice none 0 0, .slice none 0 0], .bool false, .bool true]) (by simp [results, Try.results10, go_sem, k0, k1, k2, k3, k4, k5, k6]) rfl ⟨⟨a0, a1, none, none, none, none, none, n0, c0, n1, c1, 0, 0, 0, 0, 0, 0, 0, 0, 0, 0, false, true, rfl, ⟨fun _ => trivial, fun _ => rfl⟩, by simp only [Bool.false_eq_true, false_iff]; exact fun h => HLT.out h.2.2, fun h => absurd h (fun h => HLT.out h.2.2)⟩, HK0.out⟩
  refine (num_lt H1.out H0.out (by omega) (by omega) hlt).mono ?_
  rintro e wd ⟨rfl, hs⟩
  replace HKB := Lib.hid (blk_keeps HKB.out hs (by simp)); replace HX := Lib.hid (blk_keeps HX.out hs (by simp)); replace HK := Lib.hid (HK.out.trans1 hs); replace HI := Lib.hid (HI.out.kept hs)
  replace H0 := Lib.hid (H0.out.kept hs); replace H1 := Lib.hid (H1.out.kept hs)
  have HLT := Lib.hid hlt
  clear hs hlt m0 m1
  have hx0 : (((((((wd.setCell ⟨w.heap.size + 1, 0, none⟩ (.slice a0 n0 c0)).setCell ⟨w.heap.size + 1, 1, none⟩ (.slice a1 n1 c1)).setCell ⟨w.heap.size + 1, 2, none⟩ (.slice none 0 0)).setCell ⟨w.heap.size + 1, 3, none⟩ (.slice none 0 0)).setCell ⟨w.heap.size + 1, 4, none⟩ (.slice none 0 0)).setCell ⟨w.heap.size + 1, 5, none⟩ (.slice none 0 0)).setCell ⟨w.heap.size + 1, 6, none⟩ (.slice none 0 0)).heap[w.heap.size + 1]? = some (.cells #[.slice a0 n0 c0, .slice a1 n1 c1, .slice none 0 0, .slice none 0 0, .slice none 0 0, .slice none 0 0, .slice none 0 0] 31 (0, 0)) := set7 HX.out
  have hk0 : Keeps [] w (((((((wd.setCell ⟨w.heap.size + 1, 0, none⟩ (.slice a0 n0 c0)).setCell ⟨w.heap.size + 1, 1, none⟩ (.slice a1 n1 c1)).setCell ⟨w.heap.size + 1, 2, none⟩ (.slice none 0 0)).setCell ⟨w.heap.size + 1, 3, none⟩ (.slice none 0 0)).setCell ⟨w.heap.size + 1, 4, none⟩ (.slice none 0 0)).setCell ⟨w.heap.size + 1, 5, none⟩ (.slice none 0 0)).setCell ⟨w.heap.size + 1, 6, none⟩ (.slice none 0 0)) := set7_keeps HK.out (by omega)
  have hk1 : Keeps [w.heap.size + 1] wd (((((((wd.setCell ⟨w.heap.size + 1, 0, none⟩ (.slice a0 n0 c0)).setCell ⟨w.heap.size + 1, 1, none⟩ (.slice a1 n1 c1)).setCell ⟨w.heap.size + 1, 2, none⟩ (.slice none 0 0)).setCell ⟨w.heap.size + 1, 3, none⟩ (.slice none 0 0)).setCell ⟨w.heap.size + 1, 4, none⟩ (.slice none 0 0)).setCell ⟨w.heap.size + 1, 5, none⟩ (.slice none 0 0)).setCell ⟨w.heap.size + 1, 6, none⟩ (.slice none 0 0)) := set7_keeps (Keeps.refl _ _) (by simp)
  obtain ⟨k0, k1, k2, k3, k4, k5, k6⟩ := key7 HX.out
  have ff : ∀ j, wd.frozen? ⟨w.heap.size + 1, j, none⟩ = false := fun j => by simp [World.frozen?, HX.out]
  have f0 := ff 0; have f1 := ff 1; have f2 := ff 2; have f3 := ff 3; have f4 := ff 4; have f5 := ff 5; have f6 := ff 6
  have HX0 := Lib.hid hx0; have HK0 := Lib.hid hk0; have HKK := Lib.hid hk1
  clear ff hx0 hk0 hk1
  go_wp2
  obtain ⟨wF, hwF⟩ : ∃ wF, wF = (((((((wd.setCell ⟨w.heap.size + 1, 0, none⟩ (.slice a0 n0 c0)).setCell ⟨w.heap.size + 1, 1, none⟩ (.slice a1 n1 c1)).setCell ⟨w.heap.size + 1, 2, none⟩ (.slice none 0 0)).setCell ⟨w.heap.size + 1, 3, none⟩ (.slice none 0 0)).setCell ⟨w.heap.size + 1, 4, none⟩ (.slice none 0 0)).setCell ⟨w.heap.size + 1, 5, none⟩ (.slice none 0 0)).setCell ⟨w.heap.size + 1, 6, none⟩ (.slice none 0 0)) := ⟨_, rfl⟩
  rw [← hwF] at HX0 HK0 HKK
  rw [← hwF]
  clear hwF k0 k1 k2 k3 k4 k5 k6 f0 f1 f2 f3 f4 f5 f6
  obtain ⟨k0, k1, k2, k3, k4, k5, k6⟩ := key7 HX0.out
  refine bodyPost_ret (v := .tuple #[.agg #[.slice a0 n0 c0, .slice a1 n1 c1, .slice none 0 0, .slice none 0 0, .slice none 0 0, .slice none 0 0, .slice none 0 0], .bool true, .bool true]) (by simp [results, Try.results10, go_sem, k0, k1, k2, k3, k4, k5, k6]) rfl ⟨⟨a0, a1, none, none, none, none, none, n0, c0, n1, c1, 0, 0, 0, 0, 0, 0, 0, 0, 0, 0, true, true, rfl, by simp, by simp only [true_iff]; exact ⟨HPU.out.1, HPU.out.2, HLT.out⟩, fun _ => ⟨H0.out.keepsB HKK.out HX.out (no_u32 _ _ _ _ _ _ _ _ _ _ _ _ _ _ _ _ _ _ _ _ _), H1.out.keepsB HKK.out HX.out (no_u32 _ _ _ _ _ _ _ _ _ _ _ _ _ _ _ _ _ _ _ _ _)⟩⟩, HK0.out⟩

end Go.Proofs.Ytnfjmngchapdnaa

/- laws.FnBCheck, way 2. -/
namespace Go.Proofs.Ytnfjmngchapdnaa
open Go.RowKit

set_option maxRecDepth 1000000 in
set_option maxHeartbeats 8000000 in
theorem fnBCheck_2 (k : KA) (y : Nat) (hy : y < 256) (hw : y % 3 = 2) (w : World) (hk : k.is w) :
    Calls Try.prog 4 #[.agg #[.slice k.a1 k.m1 k.c1, .int .i64 k.E, .slice k.a2 k.m2 k.c2, .slice k.a3 k.m3 k.c3, .slice k.a4 k.m4 k.c4, .slice k.a5 k.m5 k.c5, .slice k.a6 k.m6 k.c6, .slice k.a7 k.m7 k.c7], .int .u8 (y : Int)] w fun e w' => e = .returned (.bool true) ∧ Keeps [] w w' := by
  have hb0 := alloc_blk w (.cells #[.slice k.a1 k.m1 k.c1, .int .i64 k.E, .slice k.a2 k.m2 k.c2, .slice k.a3 k.m3 k.c3, .slice k.a4 k.m4 k.c4, .slice k.a5 k.m5 k.c5, .slice k.a6 k.m6 k.c6, .slice k.a7 k.m7 k.c7] 24)
  have hk0 : Keeps [] w (w.alloc (.cells #[.slice k.a1 k.m1 k.c1, .int .i64 k.E, .slice k.a2 k.m2 k.c2, .slice k.a3 k.m3 k.c3, .slice k.a4 k.m4 k.c4, .slice k.a5 k.m5 k.c5, .slice k.a6 k.m6 k.c6, .slice k.a7 k.m7 k.c7] 24)) := (Keeps.refl _ _).alloc _
  obtain ⟨wa, hwa⟩ : ∃ wa, wa = w.alloc (.cells #[.slice k.a1 k.m1 k.c1, .int .i64 k.E, .slice k.a2 k.m2 k.c2, .slice k.a3 k.m3 k.c3, .slice k.a4 k.m4 k.c4, .slice k.a5 k.m5 k.c5, .slice k.a6 k.m6 k.c6, .slice k.a7 k.m7 k.c7] 24) := ⟨_, rfl⟩
  rw [← hwa] at hb0 hk0
  have HKB := Lib.hid hb0; have HK := Lib.hid hk0; have HI := Lib.hid (hk.kept hk0)
  obtain ⟨k0, k1, k2, k3, k4, k5, k6, k7⟩ := key8 hb0
  have hWi : (y : Int) % 3 = 2 := by omega
  clear hb0 hk0 hk
  go_enter Try.func4, Try.ntmps4
  go_wp2_with fail
  rw [← hwa]
  clear hwa
  refine (zzFits4_any k.E k.a1 k.a2 k.a3 k.a4 k.a5 k.a6 k.a7 k.m1 k.c1 k.m2 k.c2 k.m3 k.c3 k.m4 k.c4 k.m5 k.c5 k.m6 k.c6 k.m7 k.c7 _).mono ?_
  rintro e wb ⟨⟨v, rfl, r, rfl⟩, hs⟩
  clear k0 k1 k2 k3 k4 k5 k6 k7
  replace HKB := Lib.hid (blk_keeps HKB.out hs (by simp)); replace HK := Lib.hid (HK.out.trans1 hs); replace HI := Lib.hid (HI.out.kept hs)
  clear hs
  obtain ⟨k0, k1, k2, k3, k4, k5, k6, k7⟩ := key8 HKB.out
  cases r
  · go_wp2
    go_ret
    exact ⟨rfl, HK.out⟩
  have hs : Keeps [] wb (wb.alloc (.cells #[.slice k.a1 k.m1 k.c1, .slice k.a2 k.m2 k.c2, .slice k.a3 k.m3 k.c3, .slice k.a4 k.m4 k.c4, .slice k.a5 k.m5 k.c5, .slice k.a6 k.m6 k.c6, .slice k.a7 k.m7 k.c7] 22)) := (Keeps.refl _ _).alloc _
  have hct : ∀ i, i < 7 → (wb.alloc (.cells #[.slice k.a1 k.m1 k.c1, .slice k.a2 k.m2 k.c2, .slice k.a3 k.m3 k.c3, .slice k.a4 k.m4 k.c4, .slice k.a5 k.m5 k.c5, .slice k.a6 k.m6 k.c6, .slice k.a7 k.m7 k.c7] 22)).cell? ⟨wb.heap.size, i, none⟩ = some (.slice ([k.a1, k.a2, k.a3, k.a4, k.a5, k.a6, k.a7].getD i none) ([k.m1, k.m2, k.m3, k.m4, k.m5, k.m6, k.m7].getD i 0) ([k.c1, k.c2, k.c3, k.c4, k.c5, k.c6, k.c7].getD i 0)) := by
    intro i hi
    obtain rfl | rfl | rfl | rfl | rfl | rfl | rfl : i = 0 ∨ i = 1 ∨ i = 2 ∨ i = 3 ∨ i = 4 ∨ i = 5 ∨ i = 6 := by omega
    all_goals (rw [alloc_cell]; rfl)
  have hst : ∀ i, i < 7 → SlB (wb.alloc (.cells #[.slice k.a1 k.m1 k.c1, .slice k.a2 k.m2 k.c2, .slice k.a3 k.m3 k.c3, .slice k.a4 k.m4 k.c4, .slice k.a5 k.m5 k.c5, .slice k.a6 k.m6 k.c6, .slice k.a7 k.m7 k.c7] 22)) ([k.a1, k.a2, k.a3, k.a4, k.a5, k.a6, k.a7].getD i none) ([k.m1, k.m2, k.m3, k.m4, k.m5, k.m6, k.m7].getD i 0) ([k.c1, k.c2, k.c3, k.c4, k.c5, k.c6, k.c7].getD i 0) ([k.L1, k.L2, k.L3, k.L4, k.L5, k.L6, k.L7].getD i []) := by
    intro i hi
    obtain rfl | rfl | rfl | rfl | rfl | rfl | rfl : i = 0 ∨ i = 1 ∨ i = 2 ∨ i = 3 ∨ i = 4 ∨ i = 5 ∨ i = 6 := by omega
    · exact HI.out.s1.kept hs
    · exact HI.out.s2.kept hs
    · exact HI.out.s3.kept hs
    · exact HI.out.s4.kept hs
    · exact HI.out.s5.kept hs
    · exact HI.out.s6.kept hs
    · exact HI.out.s7.kept hs
  have HCT := Lib.hid hct; have HST := Lib.hid hst; have HS := Lib.hid hs
  clear hct hst hs
  go_wp2_with fail
  refine (bTidy_any wb.heap.size 7 7 _ _ _ _ _ (by omega) HCT.out HST.out).mono ?_
  rintro e wc ⟨⟨b, rfl, hb⟩, rfl⟩
  clear k0 k1 k2 k3 k4 k5 k6 k7
  replace HKB := Lib.hid (blk_keeps HKB.out HS.out (by simp)); replace HK := Lib.hid (HK.out.trans1 HS.out); replace HI := Lib.hid (HI.out.kept HS.out)
  cases b
  · clear hb HCT HST
    go_wp2_with fail
    refine (bAwake_any _).mono ?_
    rintro e wz ⟨rfl, hz⟩
    replace HK := Lib.hid (HK.out.trans1 hz)
    clear hz
    go_wp2
    go_ret
    exact ⟨rfl, HK.out⟩
  have ht := hb.1 rfl
  have HT : Hid k.tidy := Lib.hid ⟨ht 0 (by omega), ht 1 (by omega), ht 2 (by omega), ht 3 (by omega), ht 4 (by omega), ht 5 (by omega), ht 6 (by omega)⟩
  clear hb ht HCT HST HS
  obtain ⟨wd, hwd⟩ : ∃ wd, wd = wb.alloc (.cells #[.slice k.a1 k.m1 k.c1, .slice k.a2 k.m2 k.c2, .slice k.a3 k.m3 k.c3, .slice k.a4 k.m4 k.c4, .slice k.a5 k.m5 k.c5, .slice k.a6 k.m6 k.c6, .slice k.a7 k.m7 k.c7] 22) := ⟨_, rfl⟩
  rw [← hwd] at HKB HK HI
  rw [← hwd]
  clear hwd
  obtain ⟨k0, k1, k2, k3, k4, k5, k6, k7⟩ := key8 HKB.out
  go_wp2_with fail
  refine (privOf_bare k _ HI.out HT.out).mono ?_
  rintro e we ⟨⟨a0, a1, a2, a3, a4, a5, a6, n0, c0, n1, c1, n2, c2, n3, c3, n4, c4, n5, c5, n6, c6, bi, bs, rfl, hbs, hbi, hnum⟩, hs⟩
  clear k0 k1 k2 k3 k4 k5 k6 k7
  replace HKB := Lib.hid (blk_keeps HKB.out hs (by simp)); replace HK := Lib.hid (HK.out.trans1 hs); replace HI := Lib.hid (HI.out.kept hs)
  have HBS := Lib.hid hbs; have HBI := Lib.hid hbi; have HNUM := Lib.hid hnum
  clear hs hbs hbi hnum
  have hx0 := alloc_blk we (.cells #[.slice a0 n0 c0, .slice a1 n1 c1, .slice a2 n2 c2, .slice a3 n3 c3, .slice a4 n4 c4, .slice a5 n5 c5, .slice a6 n6 c6] 31)
  have hk1 : Keeps [] we (we.alloc (.cells #[.slice a0 n0 c0, .slice a1 n1 c1, .slice a2 n2 c2, .slice a3 n3 c3, .slice a4 n4 c4, .slice a5 n5 c5, .slice a6 n6 c6] 31)) := (Keeps.refl _ _).alloc _
  obtain ⟨wX, hwX⟩ : ∃ wX, wX = (we.alloc (.cells #[.slice a0 n0 c0, .slice a1 n1 c1, .slice a2 n2 c2, .slice a3 n3 c3, .slice a4 n4 c4, .slice a5 n5 c5, .slice a6 n6 c6] 31)) := ⟨_, rfl⟩
  rw [← hwX] at hx0 hk1
  have HX := Lib.hid hx0; have HKX := Lib.hid hk1; have HWX := Lib.hid hwX
  clear hx0 hk1 hwX
  go_upto_region 7 with fail
  rw [← HWX.out]
  cases bs
  · replace HK := Lib.hid (HK.out.trans1 HKX.out)
    go_wp2_with fail
    refine (bAwake_any _).mono ?_
    rintro e wz ⟨rfl, hz⟩
    replace HK := Lib.hid (HK.out.trans1 hz)
    clear hz
    go_wp2
    go_ret
    exact ⟨rfl, HK.out⟩
  have hkb := blk_keeps HKB.out HKX.out (by simp)
  obtain ⟨k0, k1, k2, k3, k4, k5, k6, k7⟩ := key8 hkb
  have HKB2 := Lib.hid hkb; have HI2 := Lib.hid (HI.out.kept HKX.out); have HK2 := Lib.hid (HK.out.trans1 HKX.out)
  clear hkb
  have HOK : Hid (bi = true ↔ BareOk (bval k.L1) (bval k.L2) k.E) := Lib.hid (HBI.out)
  cases bi
  · have HNO : Hid (¬ BareOk (bval k.L1) (bval k.L2) k.E) := Lib.hid fun h => by have := HOK.out.2 h; simp at this
    go_wp2_with fail
    clear k0 k1 k2 k3 k4 k5 k6 k7
    refine (bCheck_bare k _ HI2.out HT.out).mono ?_
    rintro e wf ⟨⟨hok, _⟩ | ⟨_, rfl⟩, hs⟩
    · exact absurd hok HNO.out
    replace HK2 := Lib.hid (HK2.out.trans1 hs)
    have hk1 : Keeps [] wf (wf.alloc (.cells #[.slice none 0 0, .int .i64 0, .slice none 0 0, .slice none 0 0, .slice none 0 0, .slice none 0 0, .slice none 0 0, .slice none 0 0] 24)) := (Keeps.refl _ _).alloc _
    obtain ⟨wY, hwY⟩ : ∃ wY, wY = (wf.alloc (.cells #[.slice none 0 0, .int .i64 0, .slice none 0 0, .slice none 0 0, .slice none 0 0, .slice none 0 0, .slice none 0 0, .slice none 0 0] 24)) := ⟨_, rfl⟩
    rw [← hwY] at hk1
    have HKY := Lib.hid hk1; have HWY := Lib.hid hwY
    clear hs hk1 hwY
    go_wp2_with fail
    rw [← HWY.out]
    replace HK2 := Lib.hid (HK2.out.trans1 HKY.out)
    refine (bAwake_any _).mono ?_
    rintro e wz ⟨rfl, hz⟩
    replace HK2 := Lib.hid (HK2.out.trans1 hz)
    clear hz
    go_wp2
    go_ret
    exact ⟨rfl, HK2.out⟩
  have HOKK := Lib.hid (HOK.out.1 rfl)
  go_wp2_with fail
  clear k0 k1 k2 k3 k4 k5 k6 k7
  refine (bCheck_bare k _ HI2.out HT.out).mono ?_
  rintro e wf ⟨⟨_, v1, v2, rfl, g1, g2⟩ | ⟨hno, _⟩, hs⟩
  rotate_left
  · exact absurd HOKK.out hno
  have G1 := Lib.hid g1
  obtain ⟨b1, l1, d1, _, rfl, _⟩ := g1
  have G2 := Lib.hid g2
  obtain ⟨b2, l2, d2, _, rfl, _⟩ := g2
  have hg0 := alloc_blk wf (.cells #[.slice b1 l1 d1, .int .i64 k.E, .slice b2 l2 d2, .slice none 0 0, .slice none 0 0, .slice none 0 0, .slice none 0 0, .slice none 0 0] 24)
  have hk1 : Keeps [] wf (wf.alloc (.cells #[.slice b1 l1 d1, .int .i64 k.E, .slice b2 l2 d2, .slice none 0 0, .slice none 0 0, .slice none 0 0, .slice none 0 0, .slice none 0 0] 24)) := (Keeps.refl _ _).alloc _
  obtain ⟨wY, hwY⟩ : ∃ wY, wY = (wf.alloc (.cells #[.slice b1 l1 d1, .int .i64 k.E, .slice b2 l2 d2, .slice none 0 0, .slice none 0 0, .slice none 0 0, .slice none 0 0, .slice none 0 0] 24)) := ⟨_, rfl⟩
  rw [← hwY] at hg0 hk1
  have HG := Lib.hid hg0; have HKY := Lib.hid hk1; have HWY := Lib.hid hwY
  have hs2 := hs.trans1 hk1
  have HXN := Lib.hid (HNUM.out (HOKK.out))
  replace HKB := Lib.hid (blk_keeps HKB2.out hs2 (by simp)); replace HX := Lib.hid (blk_keeps HX.out hs2 (by simp)); replace HK := Lib.hid (HK2.out.trans1 hs2)
  have hs3 := HKX.out.trans1 hs2
  have N0 := Lib.hid (HXN.out.1.kept hs3)
  have N1 := Lib.hid (HXN.out.2.kept hs3)
  replace G1 := Lib.hid (G1.out.kept hk1)
  replace G2 := Lib.hid (G2.out.kept hk1)
  clear hg0 hk1 hwY hs2 hs3 hs HXN HNUM
  obtain ⟨k0, k1, k2, k3, k4, k5, k6, k7⟩ := key8 HKB.out
  obtain ⟨x0, x1, x2, x3, x4, x5, x6⟩ := key7 HX.out
  obtain ⟨y0, y1, y2, y3, y4, y5, y6, y7⟩ := key8 HG.out
  have y1' := y1
  go_upto_region 10 with fail
  rw [← HWY.out]
  clear y1'
  go_wp2_with fail
  refine (bIs_any G1.out N0.out (by omega)).mono ?_
  rintro e wn ⟨rfl, hs⟩
  clear k0 k1 k2 k3 k4 k5 k6 k7 x0 x1 x2 x3 x4 x5 x6 y0 y1 y2 y3 y4 y5 y6 y7
  replace HKB := Lib.hid (blk_keeps HKB.out hs (by simp)); replace HX := Lib.hid (blk_keeps HX.out hs (by simp)); replace HG := Lib.hid (blk_keeps HG.out hs (by simp)); replace HK := Lib.hid (HK.out.trans1 hs)
  replace N0 := Lib.hid (N0.out.kept hs); replace N1 := Lib.hid (N1.out.kept hs); replace G1 := Lib.hid (G1.out.kept hs); replace G2 := Lib.hid (G2.out.kept hs)
  clear hs
  obtain ⟨wm, rfl⟩ : ∃ wm, wm = wn := ⟨_, rfl⟩
  obtain ⟨k0, k1, k2, k3, k4, k5, k6, k7⟩ := key8 HKB.out
  obtain ⟨x0, x1, x2, x3, x4, x5, x6⟩ := key7 HX.out
  obtain ⟨y0, y1, y2, y3, y4, y5, y6, y7⟩ := key8 HG.out
  go_wp2_with fail
  refine (bIs_any G2.out N1.out (by omega)).mono ?_
  rintro e wn ⟨rfl, hs⟩
  clear k0 k1 k2 k3 k4 k5 k6 k7 x0 x1 x2 x3 x4 x5 x6 y0 y1 y2 y3 y4 y5 y6 y7
  replace HKB := Lib.hid (blk_keeps HKB.out hs (by simp)); replace HX := Lib.hid (blk_keeps HX.out hs (by simp)); replace HG := Lib.hid (blk_keeps HG.out hs (by simp)); replace HK := Lib.hid (HK.out.trans1 hs)
  replace N0 := Lib.hid (N0.out.kept hs); replace N1 := Lib.hid (N1.out.kept hs); replace G1 := Lib.hid (G1.out.kept hs); replace G2 := Lib.hid (G2.out.kept hs)
  clear hs
  obtain ⟨wm, rfl⟩ : ∃ wm, wm = wn := ⟨_, rfl⟩
  obtain ⟨k0, k1, k2, k3, k4, k5, k6, k7⟩ := key8 HKB.out
  obtain ⟨x0, x1, x2, x3, x4, x5, x6⟩ := key7 HX.out
  obtain ⟨y0, y1, y2, y3, y4, y5, y6, y7⟩ := key8 HG.out
  go_wp2_with fail
  refine (bAwake_any _).mono ?_
  rintro e wz ⟨rfl, hz⟩
  replace HK := Lib.hid (HK.out.trans1 hz)
  clear hz
  go_wp2
  go_ret
  exact ⟨rfl, HK.out⟩

end Go.Proofs.Ytnfjmngchapdnaa
