import Derived.Test.YtnfjmngchapdnaaGreatDoorMPo0
/- spec.BPrivateOf by each way. -/
namespace Go.Proofs.YtnfjmngchapdnaaGreatDoor
open Go.RowKit


set_option maxRecDepth 1000000 in
set_option maxHeartbeats 8000000 in
theorem privOf_all (k : KA) (w : World) (hk : k.is w) (ht : k.tidy) :
    Calls Tryz.prog 14 #[.agg #[.slice k.a1 k.m1 k.c1, .int .i64 k.E, .slice k.a2 k.m2 k.c2, .slice k.a3 k.m3 k.c3, .slice k.a4 k.m4 k.c4, .slice k.a5 k.m5 k.c5, .slice k.a6 k.m6 k.c6, .slice k.a7 k.m7 k.c7], .int .i64 1] w (bpPost w (KeyOk (bval k.L1) k.E (bval k.L2) (bval k.L3) (bval k.L4) (bval k.L5) (bval k.L6) (bval k.L7) ∧ ((1 < bval k.L1 ∧ PubOk (bval k.L1) k.E) ∧ bval k.L2 < bval k.L1 → k.a5 ≠ none ∧ (2 < bval k.L3 → 2 < bval k.L4 → bval k.L3 % 2 = 1))) ((1 < bval k.L1 ∧ PubOk (bval k.L1) k.E) ∧ bval k.L2 < bval k.L1 → k.a5 ≠ none ∧ (2 < bval k.L3 → 2 < bval k.L4 → bval k.L3 % 2 = 1)) (bval k.L1) (bval k.L2) (bval k.L3) (bval k.L4) (bval k.L5) (bval k.L6) (bval k.L7)) := by
  have hb0 : ((w.alloc (.cells #[.slice k.a1 k.m1 k.c1, .int .i64 k.E, .slice k.a2 k.m2 k.c2, .slice k.a3 k.m3 k.c3, .slice k.a4 k.m4 k.c4, .slice k.a5 k.m5 k.c5, .slice k.a6 k.m6 k.c6, .slice k.a7 k.m7 k.c7] 24)).alloc (.cells #[.slice none 0 0, .slice none 0 0, .slice none 0 0, .slice none 0 0, .slice none 0 0, .slice none 0 0, .slice none 0 0] 41)).heap[w.heap.size]? = some (.cells #[Value.slice k.a1 k.m1 k.c1, .int .i64 k.E, .slice k.a2 k.m2 k.c2, .slice k.a3 k.m3 k.c3, .slice k.a4 k.m4 k.c4, .slice k.a5 k.m5 k.c5, .slice k.a6 k.m6 k.c6, .slice k.a7 k.m7 k.c7] 24 (0, 0)) := by
    show ((w.heap.push _).push _)[w.heap.size]? = _
    rw [Array.getElem?_push, if_neg (by simp), Array.getElem?_push, if_pos (by simp)]
  have hx0 : ((w.alloc (.cells #[.slice k.a1 k.m1 k.c1, .int .i64 k.E, .slice k.a2 k.m2 k.c2, .slice k.a3 k.m3 k.c3, .slice k.a4 k.m4 k.c4, .slice k.a5 k.m5 k.c5, .slice k.a6 k.m6 k.c6, .slice k.a7 k.m7 k.c7] 24)).alloc (.cells #[.slice none 0 0, .slice none 0 0, .slice none 0 0, .slice none 0 0, .slice none 0 0, .slice none 0 0, .slice none 0 0] 41)).heap[w.heap.size + 1]? = some (.cells #[.slice none 0 0, .slice none 0 0, .slice none 0 0, .slice none 0 0, .slice none 0 0, .slice none 0 0, .slice none 0 0] 41 (0, 0)) := by
    show ((w.heap.push _).push _)[w.heap.size + 1]? = _
    rw [Array.getElem?_push, if_pos (by simp)]
  have hk0 : Keeps [] w ((w.alloc (.cells #[.slice k.a1 k.m1 k.c1, .int .i64 k.E, .slice k.a2 k.m2 k.c2, .slice k.a3 k.m3 k.c3, .slice k.a4 k.m4 k.c4, .slice k.a5 k.m5 k.c5, .slice k.a6 k.m6 k.c6, .slice k.a7 k.m7 k.c7] 24)).alloc (.cells #[.slice none 0 0, .slice none 0 0, .slice none 0 0, .slice none 0 0, .slice none 0 0, .slice none 0 0, .slice none 0 0] 41)) := ((Keeps.refl _ _).alloc _).alloc _
  obtain ⟨wa, hwa⟩ : ∃ wa, wa = ((w.alloc (.cells #[.slice k.a1 k.m1 k.c1, .int .i64 k.E, .slice k.a2 k.m2 k.c2, .slice k.a3 k.m3 k.c3, .slice k.a4 k.m4 k.c4, .slice k.a5 k.m5 k.c5, .slice k.a6 k.m6 k.c6, .slice k.a7 k.m7 k.c7] 24)).alloc (.cells #[.slice none 0 0, .slice none 0 0, .slice none 0 0, .slice none 0 0, .slice none 0 0, .slice none 0 0, .slice none 0 0] 41)) := ⟨_, rfl⟩
  rw [← hwa] at hb0 hx0 hk0
  have HKB := Lib.hid hb0; have HX := Lib.hid hx0; have HK := Lib.hid hk0; have HI := Lib.hid (hk.kept hk0); have HT := Lib.hid ht
  have hE := hk.E
  have q1 := hk.s1.1; have q2 := hk.s2.1; have q3 := hk.s3.1; have q4 := hk.s4.1
  have r1 := ht.t1.1; have r2 := ht.t2.1; have r3 := ht.t3.1; have r4 := ht.t4.1
  clear hb0 hx0 hk0 hk ht
  go_enter Tryz.func14, Tryz.ntmps14
  go_wp2_with fail
  rw [← hwa]
  clear hwa
  have mkS : ∀ w', Keeps [w.heap.size + 1] wa w' → ((convert 22 9 (.slice k.a1 k.m1 k.c1)).run Tryz.prog w' = .ok (.string (strB k.L1)) w' ∧ (convert 22 9 (.slice k.a2 k.m2 k.c2)).run Tryz.prog w' = .ok (.string (strB k.L2)) w') ∧ (w'.cell? ⟨w.heap.size, 0, none⟩ = some (.slice k.a1 k.m1 k.c1) ∧ w'.cell? ⟨w.heap.size, 2, none⟩ = some (.slice k.a2 k.m2 k.c2)) := fun w' hk => by
    have hb8 := key8 (blk_keeps HKB.out hk (by simp))
    have no8 : ∀ (j : Nat) (y : Int), (#[.slice none 0 0, .slice none 0 0, .slice none 0 0, .slice none 0 0, .slice none 0 0, .slice none 0 0, .slice none 0 0] : Array Value)[j]? ≠ some (.int .u8 y) := by
      intro j y h
      have h2 : j < 7 := (Array.getElem?_eq_some_iff.1 h).1
      obtain rfl | rfl | rfl | rfl | rfl | rfl | rfl : j = 0 ∨ j = 1 ∨ j = 2 ∨ j = 3 ∨ j = 4 ∨ j = 5 ∨ j = 6 := by omega
      all_goals simp at h
    have kk : ∀ {a : Option Addr} {m c : Nat} {L : List Nat}, SlB wa a m c L → SlB w' a m c L := fun h => h.keeps' hk (fun b o hL hB => by simpa using hB.ne_cells hL HX.out no8)
    exact ⟨⟨convert_strB (kk HI.out.s1), convert_strB (kk HI.out.s2)⟩, hb8.1, hb8.2.2.1⟩
  have MKS := Lib.hid mkS
  clear mkS
  have hS0 := MKS.out wa.drew (Keeps.refl _ _).drew
  refine wp_region_txt [0,0,0,2,0,0,0,2,0,2,0,2] (fun w' => ((convert 22 9 (.slice k.a1 k.m1 k.c1)).run Tryz.prog w' = .ok (.string (strB k.L1)) w' ∧ (convert 22 9 (.slice k.a2 k.m2 k.c2)).run Tryz.prog w' = .ok (.string (strB k.L2)) w') ∧ (w'.cell? ⟨w.heap.size, 0, none⟩ = some (.slice k.a1 k.m1 k.c1) ∧ w'.cell? ⟨w.heap.size, 2, none⟩ = some (.slice k.a2 k.m2 k.c2))) (by kernel_rfl) (by kernel_rfl) hS0 ?_
  obtain ⟨⟨g5, g6⟩, k5, k6⟩ := hS0
  simp only [withMarks]
  repeat (first
    | ((with_reducible refine txt_v (v := ?_) ?_ ?_); (any_goals ((with_reducible refine Yl.mk ?_ ?_); rfl; intro w hSw; (go_simp <;> (try go_bits) <;> (repeat (first | rw [if_pos (by omega)] | rw [if_neg (by omega)])) <;> with_reducible rfl))); try simp only [Act.put, List.setIfInBounds_toArray, List.set_cons_zero, List.set_cons_succ])
    | ((with_reducible refine txt_u ?_ ?_); rfl; try simp only [Act.put, List.setIfInBounds_toArray, List.set_cons_zero, List.set_cons_succ])
    | ((with_reducible refine txt_l (v := ?_) ?_ ?_); (any_goals ((with_reducible refine Reads.mk ?_ ?_); rfl; (go_simp <;> (try go_bits) <;> (repeat (first | rw [if_pos (by omega)] | rw [if_neg (by omega)])) <;> with_reducible rfl))); try simp only [Act.put, List.setIfInBounds_toArray, List.set_cons_zero, List.set_cons_succ])
    | ((with_reducible refine txt_e ?_ ?_); rfl; intro K hK; go_simp; (first | (refine hK _ _ (by first | exact MKS.out _ (((((Keeps.refl [] wa).drew.trans1 h1).trans1 h2).mono (by simp)).setCell (by simp) _ |>.setCell (by simp) _) | exact MKS.out _ (((((Keeps.refl [] wa).drew.trans1 h1).trans1 h2).mono (by simp)).setCell (by simp) _) | exact MKS.out _ (((Keeps.refl [] wa).drew.trans1 h1).trans1 h2 |>.mono (by simp)) | exact MKS.out _ ((Keeps.refl [] wa).drew.trans1 h1 |>.mono (by simp)) | exact ⟨⟨g5, g6⟩, k5, k6⟩) ?_) | ((first | (go_at_call 16; (with_reducible refine Calls.mono (num_of (w := wa) (L := k.L2) HI.out.s2 (by omega)) ?_); rintro e2 wv ⟨⟨a1, n1, c1, rfl, hy⟩, h2⟩; have HXv := Lib.hid (blk_keeps HX.out (((Keeps.refl [] wa).drew.trans1 h1).trans1 h2) (by simp)); obtain ⟨m0, m1, m2, m3, m4, m5, m6⟩ := key7 HXv.out; have ff : ∀ j, wv.frozen? ⟨w.heap.size + 1, j, none⟩ = false := (fun j => by simp [World.frozen?, HXv.out]); have f0 := ff 0; have f1 := ff 1; have f2 := ff 2; have f3 := ff 3; clear ff) | (go_at_call 16; (with_reducible refine Calls.mono (num_of (w := wa) (L := k.L1) HI.out.s1 (by omega)) ?_); rintro e1 wu ⟨⟨a0, n0, c0, rfl, hx⟩, h1⟩)); dsimp only; refine hK _ _ (by first | exact MKS.out _ (((((Keeps.refl [] wa).drew.trans1 h1).trans1 h2).mono (by simp)).setCell (by simp) _ |>.setCell (by simp) _) | exact MKS.out _ (((((Keeps.refl [] wa).drew.trans1 h1).trans1 h2).mono (by simp)).setCell (by simp) _) | exact MKS.out _ (((Keeps.refl [] wa).drew.trans1 h1).trans1 h2 |>.mono (by simp)) | exact MKS.out _ ((Keeps.refl [] wa).drew.trans1 h1 |>.mono (by simp)) | exact ⟨⟨g5, g6⟩, k5, k6⟩) ?_)); clear hK K; try simp only [Act.put, List.setIfInBounds_toArray, List.set_cons_zero, List.set_cons_succ]))
  refine txt_nil ?_
  clear m0 m1 m2 m3 m4 m5 m6 f0 f1 f2 f3 g5 g6 k5 k6
  have hs : Keeps [] wa wv := ((Keeps.refl [] wa).drew.trans1 h1).trans1 h2
  have hk2 : Keeps [w.heap.size + 1] wv ((wv.setCell ⟨w.heap.size + 1, 0, none⟩ (.slice a0 n0 c0)).setCell ⟨w.heap.size + 1, 1, none⟩ (.slice a1 n1 c1)) := ((Keeps.refl _ _).setCell (by simp) _).setCell (by simp) _
  have hk3 : Keeps [] w ((wv.setCell ⟨w.heap.size + 1, 0, none⟩ (.slice a0 n0 c0)).setCell ⟨w.heap.size + 1, 1, none⟩ (.slice a1 n1 c1)) := ((HK.out.trans1 hs).setCell (fun h => absurd h (by simp)) _).setCell (fun h => absurd h (by simp)) _
  have hxx : ((wv.setCell ⟨w.heap.size + 1, 0, none⟩ (.slice a0 n0 c0)).setCell ⟨w.heap.size + 1, 1, none⟩ (.slice a1 n1 c1)).heap[w.heap.size + 1]? = some (.cells #[.slice a0 n0 c0, .slice a1 n1 c1, .slice none 0 0, .slice none 0 0, .slice none 0 0, .slice none 0 0, .slice none 0 0] 41 (0, 0)) := MHdr.modify (C := #[.slice a0 n0 c0, .slice none 0 0, .slice none 0 0, .slice none 0 0, .slice none 0 0, .slice none 0 0, .slice none 0 0]) (MHdr.modify HXv.out (by simp)) (by simp)
  obtain ⟨wb, hw2⟩ : ∃ wb, wb = ((wv.setCell ⟨w.heap.size + 1, 0, none⟩ (.slice a0 n0 c0)).setCell ⟨w.heap.size + 1, 1, none⟩ (.slice a1 n1 c1)) := ⟨_, rfl⟩
  rw [← hw2] at hk2 hk3 hxx
  rw [← hw2]
  clear hw2
  have no8 : ∀ (j : Nat) (y : Int), (#[.slice none 0 0, .slice none 0 0, .slice none 0 0, .slice none 0 0, .slice none 0 0, .slice none 0 0, .slice none 0 0] : Array Value)[j]? ≠ some (.int .u8 y) := by
    intro j y h
    have h2 : j < 7 := (Array.getElem?_eq_some_iff.1 h).1
    obtain rfl | rfl | rfl | rfl | rfl | rfl | rfl : j = 0 ∨ j = 1 ∨ j = 2 ∨ j = 3 ∨ j = 4 ∨ j = 5 ∨ j = 6 := by omega
    all_goals simp at h
  have kk : ∀ {a : Option Addr} {m c : Nat} {L : List Nat}, SlB wv a m c L → SlB wb a m c L := fun h => h.keeps' hk2 (fun b o hL hB => by simpa using hB.ne_cells hL HXv.out no8)
  have iv := HI.out.kept hs
  have NM : ∀ {q : Nat} {a : Option Addr} {n c x : Nat}, Num q wv a n c x → Num q wb a n c x := fun h => h.keepsB hk2 HXv.out (no_u32 _ _ _ _ _ _ _ _ _ _ _ _ _ _ _ _ _ _ _ _ _)
  replace HKB := Lib.hid (blk_keeps (blk_keeps HKB.out hs (by simp)) hk2 (by simp))
  replace HI : Hid (k.is wb) := Lib.hid ⟨kk iv.s1, kk iv.s2, kk iv.s3, kk iv.s4, kk iv.s5, kk iv.s6, kk iv.s7, iv.E⟩

  have H0 := Lib.hid (NM (hx.kept h2)); have H1 := Lib.hid (NM hy)
  replace HX := Lib.hid hxx; replace HK := Lib.hid hk3
  clear hk2 hk3 hxx hs h1 h2 hx hy no8 kk iv NM MKS HXv
  obtain ⟨k0, k1, k2, k3, k4, k5, k6, k7⟩ := key8 HKB.out
  obtain ⟨m0, m1, _, _, _, _, _⟩ := key7 HX.out
  go_wp2_with fail
  refine (bPublicIs_any k.a1 k.m1 k.c1 k.L1 k.E k.a2 k.a3 k.a4 k.a5 k.a6 k.a7 k.m2 k.c2 k.m3 k.c3 k.m4 k.c4 k.m5 k.c5 k.m6 k.c6 k.m7 k.c7 _ HI.out.s1 (by omega) hE).mono ?_
  rintro e wc ⟨⟨b, rfl, hb⟩, hs⟩
  clear k0 k1 k2 k3 k4 k5 k6 k7 m0 m1
  replace HKB := Lib.hid (blk_keeps HKB.out hs (by simp)); replace HX := Lib.hid (blk_keeps HX.out hs (by simp)); replace HK := Lib.hid (HK.out.trans1 hs); replace HI := Lib.hid (HI.out.kept hs)
  replace H0 := Lib.hid (H0.out.kept hs); replace H1 := Lib.hid (H1.out.kept hs)
  clear hs
  cases b
  · have HNP : Hid (¬ (1 < bval k.L1 ∧ PubOk (bval k.L1) k.E)) := Lib.hid fun h => by have := hb.2 h; simp at this
    clear hb
    have hx0 : (((((((wc.setCell ⟨w.heap.size + 1, 0, none⟩ (.slice a0 n0 c0)).setCell ⟨w.heap.size + 1, 1, none⟩ (.slice a1 n1 c1)).setCell ⟨w.heap.size + 1, 2, none⟩ (.slice none 0 0)).setCell ⟨w.heap.size + 1, 3, none⟩ (.slice none 0 0)).setCell ⟨w.heap.size + 1, 4, none⟩ (.slice none 0 0)).setCell ⟨w.heap.size + 1, 5, none⟩ (.slice none 0 0)).setCell ⟨w.heap.size + 1, 6, none⟩ (.slice none 0 0)).heap[w.heap.size + 1]? = some (.cells #[.slice a0 n0 c0, .slice a1 n1 c1, .slice none 0 0, .slice none 0 0, .slice none 0 0, .slice none 0 0, .slice none 0 0] 41 (0, 0)) := set7 HX.out
    have hk0 : Keeps [] w (((((((wc.setCell ⟨w.heap.size + 1, 0, none⟩ (.slice a0 n0 c0)).setCell ⟨w.heap.size + 1, 1, none⟩ (.slice a1 n1 c1)).setCell ⟨w.heap.size + 1, 2, none⟩ (.slice none 0 0)).setCell ⟨w.heap.size + 1, 3, none⟩ (.slice none 0 0)).setCell ⟨w.heap.size + 1, 4, none⟩ (.slice none 0 0)).setCell ⟨w.heap.size + 1, 5, none⟩ (.slice none 0 0)).setCell ⟨w.heap.size + 1, 6, none⟩ (.slice none 0 0)) := set7_keeps HK.out (by omega)
    have hk1 : Keeps [w.heap.size + 1] wc (((((((wc.setCell ⟨w.heap.size + 1, 0, none⟩ (.slice a0 n0 c0)).setCell ⟨w.heap.size + 1, 1, none⟩ (.slice a1 n1 c1)).setCell ⟨w.heap.size + 1, 2, none⟩ (.slice none 0 0)).setCell ⟨w.heap.size + 1, 3, none⟩ (.slice none 0 0)).setCell ⟨w.heap.size + 1, 4, none⟩ (.slice none 0 0)).setCell ⟨w.heap.size + 1, 5, none⟩ (.slice none 0 0)).setCell ⟨w.heap.size + 1, 6, none⟩ (.slice none 0 0)) := set7_keeps (Keeps.refl _ _) (by simp)
    obtain ⟨k0, k1, k2, k3, k4, k5, k6⟩ := key7 HX.out
    have ff : ∀ j, wc.frozen? ⟨w.heap.size + 1, j, none⟩ = false := fun j => by simp [World.frozen?, HX.out]
    have f0 := ff 0; have f1 := ff 1; have f2 := ff 2; have f3 := ff 3; have f4 := ff 4; have f5 := ff 5; have f6 := ff 6
    have HX0 := Lib.hid hx0; have HK0 := Lib.hid hk0; have HKK := Lib.hid hk1
    clear ff hx0 hk0 hk1
    go_wp2
    obtain ⟨wF, hwF⟩ : ∃ wF, wF = (((((((wc.setCell ⟨w.heap.size + 1, 0, none⟩ (.slice a0 n0 c0)).setCell ⟨w.heap.size + 1, 1, none⟩ (.slice a1 n1 c1)).setCell ⟨w.heap.size + 1, 2, none⟩ (.slice none 0 0)).setCell ⟨w.heap.size + 1, 3, none⟩ (.slice none 0 0)).setCell ⟨w.heap.size + 1, 4, none⟩ (.slice none 0 0)).setCell ⟨w.heap.size + 1, 5, none⟩ (.slice none 0 0)).setCell ⟨w.heap.size + 1, 6, none⟩ (.slice none 0 0)) := ⟨_, rfl⟩
    rw [← hwF] at HX0 HK0 HKK
    rw [← hwF]
    clear hwF k0 k1 k2 k3 k4 k5 k6 f0 f1 f2 f3 f4 f5 f6
    obtain ⟨k0, k1, k2, k3, k4, k5, k6⟩ := key7 HX0.out
    refine bodyPost_ret (v := .tuple #[.agg #[.slice a0 n0 c0, .slice a1 n1 c1, .slice none 0 0, .slice none 0 0, .slice none 0 0, .slice none 0 0, .slice none 0 0], .bool false, .bool true]) (by simp [results, Tryz.results14, go_sem, k0, k1, k2, k3, k4, k5, k6]) rfl ⟨⟨a0, a1, none, none, none, none, none, n0, c0, n1, c1, 0, 0, 0, 0, 0, 0, 0, 0, 0, 0, false, true, rfl, ⟨fun _ => fun h => absurd h.1 HNP.out, fun _ => rfl⟩, by simp only [Bool.false_eq_true, false_iff]; exact fun h => HNP.out ⟨by have h1 := h.1.pN; have h2 := h.1.p3; omega, h.1.pub⟩, fun h => absurd h (fun h => HNP.out ⟨by have h1 := h.1.pN; have h2 := h.1.p3; omega, h.1.pub⟩)⟩, HK0.out⟩
  have HPU := Lib.hid (hb.1 rfl)
  clear hb
  obtain ⟨m0, m1, _, _, _, _, _⟩ := key7 HX.out
  go_wp2_with fail
  by_cases hlt : bval k.L2 < bval k.L1
  rotate_left
  · refine (num_nlt H1.out H0.out (by omega) (by omega) hlt).mono ?_
    rintro e wd ⟨⟨o, rfl, fo, fo2⟩, hs⟩
    replace HX := Lib.hid (blk_keeps HX.out hs (by simp)); replace HK := Lib.hid (HK.out.trans1 hs)
    have HLT := Lib.hid hlt
    clear hs hlt m0 m1
    have hx0 : (((((((wd.setCell ⟨w.heap.size + 1, 0, none⟩ (.slice a0 n0 c0)).setCell ⟨w.heap.size + 1, 1, none⟩ (.slice a1 n1 c1)).setCell ⟨w.heap.size + 1, 2, none⟩ (.slice none 0 0)).setCell ⟨w.heap.size + 1, 3, none⟩ (.slice none 0 0)).setCell ⟨w.heap.size + 1, 4, none⟩ (.slice none 0 0)).setCell ⟨w.heap.size + 1, 5, none⟩ (.slice none 0 0)).setCell ⟨w.heap.size + 1, 6, none⟩ (.slice none 0 0)).heap[w.heap.size + 1]? = some (.cells #[.slice a0 n0 c0, .slice a1 n1 c1, .slice none 0 0, .slice none 0 0, .slice none 0 0, .slice none 0 0, .slice none 0 0] 41 (0, 0)) := set7 HX.out
    have hk0 : Keeps [] w (((((((wd.setCell ⟨w.heap.size + 1, 0, none⟩ (.slice a0 n0 c0)).setCell ⟨w.heap.size + 1, 1, none⟩ (.slice a1 n1 c1)).setCell ⟨w.heap.size + 1, 2, none⟩ (.slice none 0 0)).setCell ⟨w.heap.size + 1, 3, none⟩ (.slice none 0 0)).setCell ⟨w.heap.size + 1, 4, none⟩ (.slice none 0 0)).setCell ⟨w.heap.size + 1, 5, none⟩ (.slice none 0 0)).setCell ⟨w.heap.size + 1, 6, none⟩ (.slice none 0 0)) := set7_keeps HK.out (by omega)
    have hk1 : Keeps [w.heap.size + 1] wd (((((((wd.setCell ⟨w.heap.size + 1, 0, none⟩ (.slice a0 n0 c0)).setCell ⟨w.heap.size + 1, 1, none⟩ (.slice a1 n1 c1)).setCell ⟨w.heap.size + 1, 2, none⟩ (.slice none 0 0)).setCell ⟨w.heap.size + 1, 3, none⟩ (.slice none 0 0)).setCell ⟨w.heap.size + 1, 4, none⟩ (.slice none 0 0)).setCell ⟨w.heap.size + 1, 5, none⟩ (.slice none 0 0)).setCell ⟨w.heap.size + 1, 6, none⟩ (.slice none 0 0)) := set7_keeps (Keeps.refl _ _) (by simp)
    obtain ⟨k0, k1, k2, k3, k4, k5, k6⟩ := key7 HX.out
    have ff : ∀ j, wd.frozen? ⟨w.heap.size + 1, j, none⟩ = false := fun j => by simp [World.frozen?, HX.out]
    have f0 := ff 0; have f1 := ff 1; have f2 := ff 2; have f3 := ff 3; have f4 := ff 4; have f5 := ff 5; have f6 := ff 6
    have HX0 := Lib.hid hx0; have HK0 := Lib.hid hk0; have HKK := Lib.hid hk1
    clear ff hx0 hk0 hk1
    go_wp2
    obtain ⟨wF, hwF⟩ : ∃ wF, wF = (((((((wd.setCell ⟨w.heap.size + 1, 0, none⟩ (.slice a0 n0 c0)).setCell ⟨w.heap.size + 1, 1, none⟩ (.slice a1 n1 c1)).setCell ⟨w.heap.size + 1, 2, none⟩ (.slice none 0 0)).setCell ⟨w.heap.size + 1, 3, none⟩ (.slice none 0 0)).setCell ⟨w.heap.size + 1, 4, none⟩ (.slice none 0 0)).setCell ⟨w.heap.size + 1, 5, none⟩ (.slice none 0 0)).setCell ⟨w.heap.size + 1, 6, none⟩ (.slice none 0 0)) := ⟨_, rfl⟩
    rw [← hwF] at HX0 HK0 HKK
    rw [← hwF]
    clear hwF k0 k1 k2 k3 k4 k5 k6 f0 f1 f2 f3 f4 f5 f6
    obtain ⟨k0, k1, k2, k3, k4, k5, k6⟩ := key7 HX0.out
    refine bodyPost_ret (v := .tuple #[.agg #[.slice a0 n0 c0, .slice a1 n1 c1, .slice none 0 0, .slice none 0 0, .slice none 0 0, .slice none 0 0, .slice none 0 0], .bool false, .bool true]) (by simp [results, Tryz.results14, go_sem, k0, k1, k2, k3, k4, k5, k6]) rfl ⟨⟨a0, a1, none, none, none, none, none, n0, c0, n1, c1, 0, 0, 0, 0, 0, 0, 0, 0, 0, 0, false, true, rfl, ⟨fun _ => fun h => absurd h.2 HLT.out, fun _ => rfl⟩, by simp only [Bool.false_eq_true, false_iff]; exact fun h => HLT.out h.1.lt, fun h => absurd h (fun h => HLT.out h.1.lt)⟩, HK0.out⟩
  refine (num_lt H1.out H0.out (by omega) (by omega) hlt).mono ?_
  rintro e wd ⟨rfl, hs⟩
  replace HKB := Lib.hid (blk_keeps HKB.out hs (by simp)); replace HX := Lib.hid (blk_keeps HX.out hs (by simp)); replace HK := Lib.hid (HK.out.trans1 hs); replace HI := Lib.hid (HI.out.kept hs)
  replace H0 := Lib.hid (H0.out.kept hs); replace H1 := Lib.hid (H1.out.kept hs)
  have HLT := Lib.hid hlt
  clear hs hlt m0 m1
  obtain ⟨k0, k1, k2, k3, k4, k5, k6, k7⟩ := key8 HKB.out
  have q22 : ∀ (w : World) (a : Option Addr) (n c n' c' : Nat), (binOp .eql 22 (.slice a n c) (.slice none n' c')).run Tryz.prog w = .ok (.bool a.isNone) w := fun w a n c n' c' => Lib.run_eql_slice_nil w _ _ a n c n' c' und_bytes
  by_cases hnil : k.a5 = none
  · have hn : k.a5.isNone = true := by rw [hnil]; rfl
    have HNIL := Lib.hid hnil
    clear hnil
    have hx0 : (((((((wd.setCell ⟨w.heap.size + 1, 0, none⟩ (.slice a0 n0 c0)).setCell ⟨w.heap.size + 1, 1, none⟩ (.slice a1 n1 c1)).setCell ⟨w.heap.size + 1, 2, none⟩ (.slice none 0 0)).setCell ⟨w.heap.size + 1, 3, none⟩ (.slice none 0 0)).setCell ⟨w.heap.size + 1, 4, none⟩ (.slice none 0 0)).setCell ⟨w.heap.size + 1, 5, none⟩ (.slice none 0 0)).setCell ⟨w.heap.size + 1, 6, none⟩ (.slice none 0 0)).heap[w.heap.size + 1]? = some (.cells #[.slice a0 n0 c0, .slice a1 n1 c1, .slice none 0 0, .slice none 0 0, .slice none 0 0, .slice none 0 0, .slice none 0 0] 41 (0, 0)) := set7 HX.out
    have hk0 : Keeps [] w (((((((wd.setCell ⟨w.heap.size + 1, 0, none⟩ (.slice a0 n0 c0)).setCell ⟨w.heap.size + 1, 1, none⟩ (.slice a1 n1 c1)).setCell ⟨w.heap.size + 1, 2, none⟩ (.slice none 0 0)).setCell ⟨w.heap.size + 1, 3, none⟩ (.slice none 0 0)).setCell ⟨w.heap.size + 1, 4, none⟩ (.slice none 0 0)).setCell ⟨w.heap.size + 1, 5, none⟩ (.slice none 0 0)).setCell ⟨w.heap.size + 1, 6, none⟩ (.slice none 0 0)) := set7_keeps HK.out (by omega)
    have hk1 : Keeps [w.heap.size + 1] wd (((((((wd.setCell ⟨w.heap.size + 1, 0, none⟩ (.slice a0 n0 c0)).setCell ⟨w.heap.size + 1, 1, none⟩ (.slice a1 n1 c1)).setCell ⟨w.heap.size + 1, 2, none⟩ (.slice none 0 0)).setCell ⟨w.heap.size + 1, 3, none⟩ (.slice none 0 0)).setCell ⟨w.heap.size + 1, 4, none⟩ (.slice none 0 0)).setCell ⟨w.heap.size + 1, 5, none⟩ (.slice none 0 0)).setCell ⟨w.heap.size + 1, 6, none⟩ (.slice none 0 0)) := set7_keeps (Keeps.refl _ _) (by simp)
    obtain ⟨k0, k1, k2, k3, k4, k5, k6⟩ := key7 HX.out
    have ff : ∀ j, wd.frozen? ⟨w.heap.size + 1, j, none⟩ = false := fun j => by simp [World.frozen?, HX.out]
    have f0 := ff 0; have f1 := ff 1; have f2 := ff 2; have f3 := ff 3; have f4 := ff 4; have f5 := ff 5; have f6 := ff 6
    have HX0 := Lib.hid hx0; have HK0 := Lib.hid hk0; have HKK := Lib.hid hk1
    clear ff hx0 hk0 hk1
    go_wp2
    obtain ⟨wF, hwF⟩ : ∃ wF, wF = (((((((wd.setCell ⟨w.heap.size + 1, 0, none⟩ (.slice a0 n0 c0)).setCell ⟨w.heap.size + 1, 1, none⟩ (.slice a1 n1 c1)).setCell ⟨w.heap.size + 1, 2, none⟩ (.slice none 0 0)).setCell ⟨w.heap.size + 1, 3, none⟩ (.slice none 0 0)).setCell ⟨w.heap.size + 1, 4, none⟩ (.slice none 0 0)).setCell ⟨w.heap.size + 1, 5, none⟩ (.slice none 0 0)).setCell ⟨w.heap.size + 1, 6, none⟩ (.slice none 0 0)) := ⟨_, rfl⟩
    rw [← hwF] at HX0 HK0 HKK
    rw [← hwF]
    clear hwF k0 k1 k2 k3 k4 k5 k6 f0 f1 f2 f3 f4 f5 f6
    obtain ⟨k0, k1, k2, k3, k4, k5, k6⟩ := key7 HX0.out
    refine bodyPost_ret (v := .tuple #[.agg #[.slice a0 n0 c0, .slice a1 n1 c1, .slice none 0 0, .slice none 0 0, .slice none 0 0, .slice none 0 0, .slice none 0 0], .bool false, .bool false]) (by simp [results, Tryz.results14, go_sem, k0, k1, k2, k3, k4, k5, k6]) rfl ⟨⟨a0, a1, none, none, none, none, none, n0, c0, n1, c1, 0, 0, 0, 0, 0, 0, 0, 0, 0, 0, false, false, rfl, ⟨fun h => by simp at h, fun h => absurd HNIL.out (h ⟨HPU.out, HLT.out⟩).1⟩, by simp only [Bool.false_eq_true, false_iff]; exact fun h => absurd HNIL.out (h.2 ⟨HPU.out, HLT.out⟩).1, fun h => absurd h (fun h => absurd HNIL.out (h.2 ⟨HPU.out, HLT.out⟩).1)⟩, HK0.out⟩
  have hn : k.a5.isNone = false := by cases h : k.a5 with | none => exact absurd h hnil | some _ => rfl
  have HNIL := Lib.hid hnil
  clear hnil
  go_wp2_with fail
  clear k0 k1 k2 k3 k4 k5 k6 k7 q22 hn
  have mkS : ∀ w', Keeps [w.heap.size + 1] wd w' → ((convert 22 9 (.slice k.a3 k.m3 k.c3)).run Tryz.prog w' = .ok (.string (strB k.L3)) w' ∧ (convert 22 9 (.slice k.a4 k.m4 k.c4)).run Tryz.prog w' = .ok (.string (strB k.L4)) w') ∧ (w'.cell? ⟨w.heap.size, 3, none⟩ = some (.slice k.a3 k.m3 k.c3) ∧ w'.cell? ⟨w.heap.size, 4, none⟩ = some (.slice k.a4 k.m4 k.c4)) := fun w' hk => by
    have hb8 := key8 (blk_keeps HKB.out hk (by simp))
    have no8 : ∀ (j : Nat) (y : Int), (#[.slice a0 n0 c0, .slice a1 n1 c1, .slice none 0 0, .slice none 0 0, .slice none 0 0, .slice none 0 0, .slice none 0 0] : Array Value)[j]? ≠ some (.int .u8 y) := by
      intro j y h
      have h2 : j < 7 := (Array.getElem?_eq_some_iff.1 h).1
      obtain rfl | rfl | rfl | rfl | rfl | rfl | rfl : j = 0 ∨ j = 1 ∨ j = 2 ∨ j = 3 ∨ j = 4 ∨ j = 5 ∨ j = 6 := by omega
      all_goals simp at h
    have kk : ∀ {a : Option Addr} {m c : Nat} {L : List Nat}, SlB wd a m c L → SlB w' a m c L := fun h => h.keeps' hk (fun b o hL hB => by simpa using hB.ne_cells hL HX.out no8)
    exact ⟨⟨convert_strB (kk HI.out.s3), convert_strB (kk HI.out.s4)⟩, hb8.2.2.2.1, hb8.2.2.2.2.1⟩
  have MKS := Lib.hid mkS
  clear mkS
  have hS0 := MKS.out wd.drew (Keeps.refl _ _).drew
  refine wp_region_txt [0,0,0,2,0,0,0,2,0,2,0,2] (fun w' => ((convert 22 9 (.slice k.a3 k.m3 k.c3)).run Tryz.prog w' = .ok (.string (strB k.L3)) w' ∧ (convert 22 9 (.slice k.a4 k.m4 k.c4)).run Tryz.prog w' = .ok (.string (strB k.L4)) w') ∧ (w'.cell? ⟨w.heap.size, 3, none⟩ = some (.slice k.a3 k.m3 k.c3) ∧ w'.cell? ⟨w.heap.size, 4, none⟩ = some (.slice k.a4 k.m4 k.c4))) (by kernel_rfl) (by kernel_rfl) hS0 ?_
  obtain ⟨⟨g5, g6⟩, k5, k6⟩ := hS0
  simp only [withMarks]
  repeat (first
    | ((with_reducible refine txt_v (v := ?_) ?_ ?_); (any_goals ((with_reducible refine Yl.mk ?_ ?_); rfl; intro w hSw; (go_simp <;> (try go_bits) <;> (repeat (first | rw [if_pos (by omega)] | rw [if_neg (by omega)])) <;> with_reducible rfl))); try simp only [Act.put, List.setIfInBounds_toArray, List.set_cons_zero, List.set_cons_succ])
    | ((with_reducible refine txt_u ?_ ?_); rfl; try simp only [Act.put, List.setIfInBounds_toArray, List.set_cons_zero, List.set_cons_succ])
    | ((with_reducible refine txt_l (v := ?_) ?_ ?_); (any_goals ((with_reducible refine Reads.mk ?_ ?_); rfl; (go_simp <;> (try go_bits) <;> (repeat (first | rw [if_pos (by omega)] | rw [if_neg (by omega)])) <;> with_reducible rfl))); try simp only [Act.put, List.setIfInBounds_toArray, List.set_cons_zero, List.set_cons_succ])
    | ((with_reducible refine txt_e ?_ ?_); rfl; intro K hK; go_simp; (first | (refine hK _ _ (by first | exact MKS.out _ (((((Keeps.refl [] wd).drew.trans1 h1).trans1 h2).mono (by simp)).setCell (by simp) _ |>.setCell (by simp) _) | exact MKS.out _ (((((Keeps.refl [] wd).drew.trans1 h1).trans1 h2).mono (by simp)).setCell (by simp) _) | exact MKS.out _ (((Keeps.refl [] wd).drew.trans1 h1).trans1 h2 |>.mono (by simp)) | exact MKS.out _ ((Keeps.refl [] wd).drew.trans1 h1 |>.mono (by simp)) | exact ⟨⟨g5, g6⟩, k5, k6⟩) ?_) | ((first | (go_at_call 16; (with_reducible refine Calls.mono (num_of (w := wd) (L := k.L4) HI.out.s4 (by omega)) ?_); rintro e2 wv ⟨⟨a3, n3, c3, rfl, hy⟩, h2⟩; have HXv := Lib.hid (blk_keeps HX.out (((Keeps.refl [] wd).drew.trans1 h1).trans1 h2) (by simp)); obtain ⟨m0, m1, m2, m3, m4, m5, m6⟩ := key7 HXv.out; have ff : ∀ j, wv.frozen? ⟨w.heap.size + 1, j, none⟩ = false := (fun j => by simp [World.frozen?, HXv.out]); have f0 := ff 0; have f1 := ff 1; have f2 := ff 2; have f3 := ff 3; clear ff) | (go_at_call 16; (with_reducible refine Calls.mono (num_of (w := wd) (L := k.L3) HI.out.s3 (by omega)) ?_); rintro e1 wu ⟨⟨a2, n2, c2, rfl, hx⟩, h1⟩)); dsimp only; refine hK _ _ (by first | exact MKS.out _ (((((Keeps.refl [] wd).drew.trans1 h1).trans1 h2).mono (by simp)).setCell (by simp) _ |>.setCell (by simp) _) | exact MKS.out _ (((((Keeps.refl [] wd).drew.trans1 h1).trans1 h2).mono (by simp)).setCell (by simp) _) | exact MKS.out _ (((Keeps.refl [] wd).drew.trans1 h1).trans1 h2 |>.mono (by simp)) | exact MKS.out _ ((Keeps.refl [] wd).drew.trans1 h1 |>.mono (by simp)) | exact ⟨⟨g5, g6⟩, k5, k6⟩) ?_)); clear hK K; try simp only [Act.put, List.setIfInBounds_toArray, List.set_cons_zero, List.set_cons_succ]))
  refine txt_nil ?_
  clear m0 m1 m2 m3 m4 m5 m6 f0 f1 f2 f3 g5 g6 k5 k6
  have hs : Keeps [] wd wv := ((Keeps.refl [] wd).drew.trans1 h1).trans1 h2
  have hk2 : Keeps [w.heap.size + 1] wv ((wv.setCell ⟨w.heap.size + 1, 2, none⟩ (.slice a2 n2 c2)).setCell ⟨w.heap.size + 1, 3, none⟩ (.slice a3 n3 c3)) := ((Keeps.refl _ _).setCell (by simp) _).setCell (by simp) _
  have hk3 : Keeps [] w ((wv.setCell ⟨w.heap.size + 1, 2, none⟩ (.slice a2 n2 c2)).setCell ⟨w.heap.size + 1, 3, none⟩ (.slice a3 n3 c3)) := ((HK.out.trans1 hs).setCell (fun h => absurd h (by simp)) _).setCell (fun h => absurd h (by simp)) _
  have hxx : ((wv.setCell ⟨w.heap.size + 1, 2, none⟩ (.slice a2 n2 c2)).setCell ⟨w.heap.size + 1, 3, none⟩ (.slice a3 n3 c3)).heap[w.heap.size + 1]? = some (.cells #[.slice a0 n0 c0, .slice a1 n1 c1, .slice a2 n2 c2, .slice a3 n3 c3, .slice none 0 0, .slice none 0 0, .slice none 0 0] 41 (0, 0)) := MHdr.modify (C := #[.slice a0 n0 c0, .slice a1 n1 c1, .slice a2 n2 c2, .slice none 0 0, .slice none 0 0, .slice none 0 0, .slice none 0 0]) (MHdr.modify HXv.out (by simp)) (by simp)
  obtain ⟨we, hw2⟩ : ∃ we, we = ((wv.setCell ⟨w.heap.size + 1, 2, none⟩ (.slice a2 n2 c2)).setCell ⟨w.heap.size + 1, 3, none⟩ (.slice a3 n3 c3)) := ⟨_, rfl⟩
  rw [← hw2] at hk2 hk3 hxx
  rw [← hw2]
  clear hw2
  have no8 : ∀ (j : Nat) (y : Int), (#[.slice a0 n0 c0, .slice a1 n1 c1, .slice none 0 0, .slice none 0 0, .slice none 0 0, .slice none 0 0, .slice none 0 0] : Array Value)[j]? ≠ some (.int .u8 y) := by
    intro j y h
    have h2 : j < 7 := (Array.getElem?_eq_some_iff.1 h).1
    obtain rfl | rfl | rfl | rfl | rfl | rfl | rfl : j = 0 ∨ j = 1 ∨ j = 2 ∨ j = 3 ∨ j = 4 ∨ j = 5 ∨ j = 6 := by omega
    all_goals simp at h
  have kk : ∀ {a : Option Addr} {m c : Nat} {L : List Nat}, SlB wv a m c L → SlB we a m c L := fun h => h.keeps' hk2 (fun b o hL hB => by simpa using hB.ne_cells hL HXv.out no8)
  have iv := HI.out.kept hs
  have NM : ∀ {q : Nat} {a : Option Addr} {n c x : Nat}, Num q wv a n c x → Num q we a n c x := fun h => h.keepsB hk2 HXv.out (no_u32 _ _ _ _ _ _ _ _ _ _ _ _ _ _ _ _ _ _ _ _ _)
  replace HKB := Lib.hid (blk_keeps (blk_keeps HKB.out hs (by simp)) hk2 (by simp))
  replace HI : Hid (k.is we) := Lib.hid ⟨kk iv.s1, kk iv.s2, kk iv.s3, kk iv.s4, kk iv.s5, kk iv.s6, kk iv.s7, iv.E⟩
  replace H0 := Lib.hid (NM (H0.out.kept hs))
  replace H1 := Lib.hid (NM (H1.out.kept hs))
  have H2 := Lib.hid (NM (hx.kept h2)); have H3 := Lib.hid (NM hy)
  replace HX := Lib.hid hxx; replace HK := Lib.hid hk3
  clear hk2 hk3 hxx hs h1 h2 hx hy no8 kk iv NM MKS HXv
  have hk2 : Keeps [] we (we.alloc (.cells #[.int .u32 2] 62)) := (Keeps.refl _ _).alloc _
  have h7 : Num 1 (we.alloc (.cells #[.int .u32 2] 62)) (some ⟨we.heap.size, 0, none⟩) 1 1 2 := num_lit we 2 (by omega) (by omega)
  have h8 : Num 1 ((we.alloc (.cells #[.int .u32 2] 62)).alloc (.cells #[.int .u32 3] 62)) (some ⟨we.heap.size + 1, 0, none⟩) 1 1 3 := by have := num_lit (we.alloc (.cells #[.int .u32 2] 62)) 3 (by omega) (by omega); simpa using this
  have hk3 : Keeps [] we ((we.alloc (.cells #[.int .u32 2] 62)).alloc (.cells #[.int .u32 3] 62)) := hk2.alloc _
  obtain ⟨_, _, m2, m3, _, _, _⟩ := key7 HX.out
  have hx2 := key7 (blk_keeps HX.out hk2 (by simp))
  have HK3 := Lib.hid hk3; have H7 := Lib.hid (h7.kept ((Keeps.refl _ _).alloc (.cells #[.int .u32 3] 62))); have H8 := Lib.hid h8
  obtain ⟨_, _, p2, p3, _, _, _⟩ := hx2
  clear hk2 hk3 h7 h8
  go_wp2_with fail
  by_cases hp3 : bval k.L3 < 3
  · refine (num_lt (H2.out.kept HK3.out) H8.out (by omega) (by omega) hp3).mono ?_
    rintro e wf ⟨rfl, hs0⟩
    have hs := HK3.out.trans1 hs0
    replace HX := Lib.hid (blk_keeps HX.out hs (by simp)); replace HK := Lib.hid (HK.out.trans1 hs)
    have HP3 := Lib.hid hp3
    clear hs hs0 hp3 m2 m3 p2 p3
    have hx0 : (((((((wf.setCell ⟨w.heap.size + 1, 0, none⟩ (.slice a0 n0 c0)).setCell ⟨w.heap.size + 1, 1, none⟩ (.slice a1 n1 c1)).setCell ⟨w.heap.size + 1, 2, none⟩ (.slice a2 n2 c2)).setCell ⟨w.heap.size + 1, 3, none⟩ (.slice a3 n3 c3)).setCell ⟨w.heap.size + 1, 4, none⟩ (.slice none 0 0)).setCell ⟨w.heap.size + 1, 5, none⟩ (.slice none 0 0)).setCell ⟨w.heap.size + 1, 6, none⟩ (.slice none 0 0)).heap[w.heap.size + 1]? = some (.cells #[.slice a0 n0 c0, .slice a1 n1 c1, .slice a2 n2 c2, .slice a3 n3 c3, .slice none 0 0, .slice none 0 0, .slice none 0 0] 41 (0, 0)) := set7 HX.out
    have hk0 : Keeps [] w (((((((wf.setCell ⟨w.heap.size + 1, 0, none⟩ (.slice a0 n0 c0)).setCell ⟨w.heap.size + 1, 1, none⟩ (.slice a1 n1 c1)).setCell ⟨w.heap.size + 1, 2, none⟩ (.slice a2 n2 c2)).setCell ⟨w.heap.size + 1, 3, none⟩ (.slice a3 n3 c3)).setCell ⟨w.heap.size + 1, 4, none⟩ (.slice none 0 0)).setCell ⟨w.heap.size + 1, 5, none⟩ (.slice none 0 0)).setCell ⟨w.heap.size + 1, 6, none⟩ (.slice none 0 0)) := set7_keeps HK.out (by omega)
    have hk1 : Keeps [w.heap.size + 1] wf (((((((wf.setCell ⟨w.heap.size + 1, 0, none⟩ (.slice a0 n0 c0)).setCell ⟨w.heap.size + 1, 1, none⟩ (.slice a1 n1 c1)).setCell ⟨w.heap.size + 1, 2, none⟩ (.slice a2 n2 c2)).setCell ⟨w.heap.size + 1, 3, none⟩ (.slice a3 n3 c3)).setCell ⟨w.heap.size + 1, 4, none⟩ (.slice none 0 0)).setCell ⟨w.heap.size + 1, 5, none⟩ (.slice none 0 0)).setCell ⟨w.heap.size + 1, 6, none⟩ (.slice none 0 0)) := set7_keeps (Keeps.refl _ _) (by simp)
    obtain ⟨k0, k1, k2, k3, k4, k5, k6⟩ := key7 HX.out
    have ff : ∀ j, wf.frozen? ⟨w.heap.size + 1, j, none⟩ = false := fun j => by simp [World.frozen?, HX.out]
    have f0 := ff 0; have f1 := ff 1; have f2 := ff 2; have f3 := ff 3; have f4 := ff 4; have f5 := ff 5; have f6 := ff 6
    have HX0 := Lib.hid hx0; have HK0 := Lib.hid hk0; have HKK := Lib.hid hk1
    clear ff hx0 hk0 hk1
    go_wp2
    obtain ⟨wF, hwF⟩ : ∃ wF, wF = (((((((wf.setCell ⟨w.heap.size + 1, 0, none⟩ (.slice a0 n0 c0)).setCell ⟨w.heap.size + 1, 1, none⟩ (.slice a1 n1 c1)).setCell ⟨w.heap.size + 1, 2, none⟩ (.slice a2 n2 c2)).setCell ⟨w.heap.size + 1, 3, none⟩ (.slice a3 n3 c3)).setCell ⟨w.heap.size + 1, 4, none⟩ (.slice none 0 0)).setCell ⟨w.heap.size + 1, 5, none⟩ (.slice none 0 0)).setCell ⟨w.heap.size + 1, 6, none⟩ (.slice none 0 0)) := ⟨_, rfl⟩
    rw [← hwF] at HX0 HK0 HKK
    rw [← hwF]
    clear hwF k0 k1 k2 k3 k4 k5 k6 f0 f1 f2 f3 f4 f5 f6
    obtain ⟨k0, k1, k2, k3, k4, k5, k6⟩ := key7 HX0.out
    refine bodyPost_ret (v := .tuple #[.agg #[.slice a0 n0 c0, .slice a1 n1 c1, .slice a2 n2 c2, .slice a3 n3 c3, .slice none 0 0, .slice none 0 0, .slice none 0 0], .bool false, .bool true]) (by simp [results, Tryz.results14, go_sem, k0, k1, k2, k3, k4, k5, k6]) rfl ⟨⟨a0, a1, a2, a3, none, none, none, n0, c0, n1, c1, n2, c2, n3, c3, 0, 0, 0, 0, 0, 0, false, true, rfl, ⟨fun _ => fun _ => ⟨HNIL.out, fun h => by have h2 := HP3.out; omega⟩, fun _ => rfl⟩, by simp only [Bool.false_eq_true, false_iff]; exact fun h => by have h1 := h.1.p3; have h2 := HP3.out; omega, fun h => absurd h (fun h => by have h1 := h.1.p3; have h2 := HP3.out; omega)⟩, HK0.out⟩
  refine (num_nlt (H2.out.kept HK3.out) H8.out (by omega) (by omega) hp3).mono ?_
  rintro e wf ⟨⟨o, rfl, fo, fo2⟩, hs0⟩
  have hs := HK3.out.trans1 hs0
  replace HKB := Lib.hid (blk_keeps HKB.out hs (by simp)); replace HX := Lib.hid (blk_keeps HX.out hs (by simp)); replace HK := Lib.hid (HK.out.trans1 hs); replace HI := Lib.hid (HI.out.kept hs)
  replace H0 := Lib.hid (H0.out.kept hs); replace H1 := Lib.hid (H1.out.kept hs); replace H2 := Lib.hid (H2.out.kept hs); replace H3 := Lib.hid (H3.out.kept hs); replace H7 := Lib.hid (H7.out.kept hs0)
  have HP3 : Hid (2 < bval k.L3) := Lib.hid (by omega)
  clear hs hs0 hp3 m2 m3 p2 p3 HK3 H8
  have h8 : Num 1 (wf.alloc (.cells #[.int .u32 3] 62)) (some ⟨wf.heap.size, 0, none⟩) 1 1 3 := num_lit wf 3 (by omega) (by omega)
  have hk3 : Keeps [] wf (wf.alloc (.cells #[.int .u32 3] 62)) := (Keeps.refl _ _).alloc _
  obtain ⟨_, _, m2, m3, _, _, _⟩ := key7 HX.out
  have HK3 := Lib.hid hk3; have H8 := Lib.hid h8
  clear hk3 h8
  go_wp2_with fail
  by_cases hq3 : bval k.L4 < 3
  · refine (num_lt (H3.out.kept HK3.out) H8.out (by omega) (by omega) hq3).mono ?_
    rintro e wg ⟨rfl, hs0⟩
    have hs := HK3.out.trans1 hs0
    replace HX := Lib.hid (blk_keeps HX.out hs (by simp)); replace HK := Lib.hid (HK.out.trans1 hs)
    have HQ3 := Lib.hid hq3
    clear hs hs0 hq3 m2 m3 fo fo2
    have hx0 : (((((((wg.setCell ⟨w.heap.size + 1, 0, none⟩ (.slice a0 n0 c0)).setCell ⟨w.heap.size + 1, 1, none⟩ (.slice a1 n1 c1)).setCell ⟨w.heap.size + 1, 2, none⟩ (.slice a2 n2 c2)).setCell ⟨w.heap.size + 1, 3, none⟩ (.slice a3 n3 c3)).setCell ⟨w.heap.size + 1, 4, none⟩ (.slice none 0 0)).setCell ⟨w.heap.size + 1, 5, none⟩ (.slice none 0 0)).setCell ⟨w.heap.size + 1, 6, none⟩ (.slice none 0 0)).heap[w.heap.size + 1]? = some (.cells #[.slice a0 n0 c0, .slice a1 n1 c1, .slice a2 n2 c2, .slice a3 n3 c3, .slice none 0 0, .slice none 0 0, .slice none 0 0] 41 (0, 0)) := set7 HX.out
    have hk0 : Keeps [] w (((((((wg.setCell ⟨w.heap.size + 1, 0, none⟩ (.slice a0 n0 c0)).setCell ⟨w.heap.size + 1, 1, none⟩ (.slice a1 n1 c1)).setCell ⟨w.heap.size + 1, 2, none⟩ (.slice a2 n2 c2)).setCell ⟨w.heap.size + 1, 3, none⟩ (.slice a3 n3 c3)).setCell ⟨w.heap.size + 1, 4, none⟩ (.slice none 0 0)).setCell ⟨w.heap.size + 1, 5, none⟩ (.slice none 0 0)).setCell ⟨w.heap.size + 1, 6, none⟩ (.slice none 0 0)) := set7_keeps HK.out (by omega)
    have hk1 : Keeps [w.heap.size + 1] wg (((((((wg.setCell ⟨w.heap.size + 1, 0, none⟩ (.slice a0 n0 c0)).setCell ⟨w.heap.size + 1, 1, none⟩ (.slice a1 n1 c1)).setCell ⟨w.heap.size + 1, 2, none⟩ (.slice a2 n2 c2)).setCell ⟨w.heap.size + 1, 3, none⟩ (.slice a3 n3 c3)).setCell ⟨w.heap.size + 1, 4, none⟩ (.slice none 0 0)).setCell ⟨w.heap.size + 1, 5, none⟩ (.slice none 0 0)).setCell ⟨w.heap.size + 1, 6, none⟩ (.slice none 0 0)) := set7_keeps (Keeps.refl _ _) (by simp)
    obtain ⟨k0, k1, k2, k3, k4, k5, k6⟩ := key7 HX.out
    have ff : ∀ j, wg.frozen? ⟨w.heap.size + 1, j, none⟩ = false := fun j => by simp [World.frozen?, HX.out]
    have f0 := ff 0; have f1 := ff 1; have f2 := ff 2; have f3 := ff 3; have f4 := ff 4; have f5 := ff 5; have f6 := ff 6
    have HX0 := Lib.hid hx0; have HK0 := Lib.hid hk0; have HKK := Lib.hid hk1
    clear ff hx0 hk0 hk1
    go_wp2
    obtain ⟨wF, hwF⟩ : ∃ wF, wF = (((((((wg.setCell ⟨w.heap.size + 1, 0, none⟩ (.slice a0 n0 c0)).setCell ⟨w.heap.size + 1, 1, none⟩ (.slice a1 n1 c1)).setCell ⟨w.heap.size + 1, 2, none⟩ (.slice a2 n2 c2)).setCell ⟨w.heap.size + 1, 3, none⟩ (.slice a3 n3 c3)).setCell ⟨w.heap.size + 1, 4, none⟩ (.slice none 0 0)).setCell ⟨w.heap.size + 1, 5, none⟩ (.slice none 0 0)).setCell ⟨w.heap.size + 1, 6, none⟩ (.slice none 0 0)) := ⟨_, rfl⟩
    rw [← hwF] at HX0 HK0 HKK
    rw [← hwF]
    clear hwF k0 k1 k2 k3 k4 k5 k6 f0 f1 f2 f3 f4 f5 f6
    obtain ⟨k0, k1, k2, k3, k4, k5, k6⟩ := key7 HX0.out
    refine bodyPost_ret (v := .tuple #[.agg #[.slice a0 n0 c0, .slice a1 n1 c1, .slice a2 n2 c2, .slice a3 n3 c3, .slice none 0 0, .slice none 0 0, .slice none 0 0], .bool false, .bool true]) (by simp [results, Tryz.results14, go_sem, k0, k1, k2, k3, k4, k5, k6]) rfl ⟨⟨a0, a1, a2, a3, none, none, none, n0, c0, n1, c1, n2, c2, n3, c3, 0, 0, 0, 0, 0, 0, false, true, rfl, ⟨fun _ => fun _ => ⟨HNIL.out, fun _ h => by have h2 := HQ3.out; omega⟩, fun _ => rfl⟩, by simp only [Bool.false_eq_true, false_iff]; exact fun h => by have h1 := h.1.q3; have h2 := HQ3.out; omega, fun h => absurd h (fun h => by have h1 := h.1.q3; have h2 := HQ3.out; omega)⟩, HK0.out⟩
  refine (num_nlt (H3.out.kept HK3.out) H8.out (by omega) (by omega) hq3).mono ?_
  rintro e wg ⟨⟨o2, rfl, fo3, fo4⟩, hs0⟩
  have hs := HK3.out.trans1 hs0
  replace HKB := Lib.hid (blk_keeps HKB.out hs (by simp)); replace HX := Lib.hid (blk_keeps HX.out hs (by simp)); replace HK := Lib.hid (HK.out.trans1 hs); replace HI := Lib.hid (HI.out.kept hs)
  replace H0 := Lib.hid (H0.out.kept hs); replace H1 := Lib.hid (H1.out.kept hs); replace H2 := Lib.hid (H2.out.kept hs); replace H3 := Lib.hid (H3.out.kept hs); replace H7 := Lib.hid (H7.out.kept hs)
  have HQ3 : Hid (2 < bval k.L4) := Lib.hid (by omega)
  clear hs hs0 hq3 m2 m3 HK3 H8
  obtain ⟨_, _, m2, m3, _, _, _⟩ := key7 HX.out
  go_wp2_with fail
  refine (num_odd H2.out).mono ?_
  rintro e wh ⟨⟨b, rfl, hb⟩, rfl⟩
  clear m2 m3 fo fo2 fo3 fo4
  cases b
  · have HEV : Hid (¬ bval k.L3 % 2 = 1) := Lib.hid fun h => by have := hb.2 h; simp at this
    clear hb
    have hx0 : (((((((wg.setCell ⟨w.heap.size + 1, 0, none⟩ (.slice a0 n0 c0)).setCell ⟨w.heap.size + 1, 1, none⟩ (.slice a1 n1 c1)).setCell ⟨w.heap.size + 1, 2, none⟩ (.slice a2 n2 c2)).setCell ⟨w.heap.size + 1, 3, none⟩ (.slice a3 n3 c3)).setCell ⟨w.heap.size + 1, 4, none⟩ (.slice none 0 0)).setCell ⟨w.heap.size + 1, 5, none⟩ (.slice none 0 0)).setCell ⟨w.heap.size + 1, 6, none⟩ (.slice none 0 0)).heap[w.heap.size + 1]? = some (.cells #[.slice a0 n0 c0, .slice a1 n1 c1, .slice a2 n2 c2, .slice a3 n3 c3, .slice none 0 0, .slice none 0 0, .slice none 0 0] 41 (0, 0)) := set7 HX.out
    have hk0 : Keeps [] w (((((((wg.setCell ⟨w.heap.size + 1, 0, none⟩ (.slice a0 n0 c0)).setCell ⟨w.heap.size + 1, 1, none⟩ (.slice a1 n1 c1)).setCell ⟨w.heap.size + 1, 2, none⟩ (.slice a2 n2 c2)).setCell ⟨w.heap.size + 1, 3, none⟩ (.slice a3 n3 c3)).setCell ⟨w.heap.size + 1, 4, none⟩ (.slice none 0 0)).setCell ⟨w.heap.size + 1, 5, none⟩ (.slice none 0 0)).setCell ⟨w.heap.size + 1, 6, none⟩ (.slice none 0 0)) := set7_keeps HK.out (by omega)
    have hk1 : Keeps [w.heap.size + 1] wg (((((((wg.setCell ⟨w.heap.size + 1, 0, none⟩ (.slice a0 n0 c0)).setCell ⟨w.heap.size + 1, 1, none⟩ (.slice a1 n1 c1)).setCell ⟨w.heap.size + 1, 2, none⟩ (.slice a2 n2 c2)).setCell ⟨w.heap.size + 1, 3, none⟩ (.slice a3 n3 c3)).setCell ⟨w.heap.size + 1, 4, none⟩ (.slice none 0 0)).setCell ⟨w.heap.size + 1, 5, none⟩ (.slice none 0 0)).setCell ⟨w.heap.size + 1, 6, none⟩ (.slice none 0 0)) := set7_keeps (Keeps.refl _ _) (by simp)
    obtain ⟨k0, k1, k2, k3, k4, k5, k6⟩ := key7 HX.out
    have ff : ∀ j, wg.frozen? ⟨w.heap.size + 1, j, none⟩ = false := fun j => by simp [World.frozen?, HX.out]
    have f0 := ff 0; have f1 := ff 1; have f2 := ff 2; have f3 := ff 3; have f4 := ff 4; have f5 := ff 5; have f6 := ff 6
    have HX0 := Lib.hid hx0; have HK0 := Lib.hid hk0; have HKK := Lib.hid hk1
    clear ff hx0 hk0 hk1
    go_wp2
    obtain ⟨wF, hwF⟩ : ∃ wF, wF = (((((((wg.setCell ⟨w.heap.size + 1, 0, none⟩ (.slice a0 n0 c0)).setCell ⟨w.heap.size + 1, 1, none⟩ (.slice a1 n1 c1)).setCell ⟨w.heap.size + 1, 2, none⟩ (.slice a2 n2 c2)).setCell ⟨w.heap.size + 1, 3, none⟩ (.slice a3 n3 c3)).setCell ⟨w.heap.size + 1, 4, none⟩ (.slice none 0 0)).setCell ⟨w.heap.size + 1, 5, none⟩ (.slice none 0 0)).setCell ⟨w.heap.size + 1, 6, none⟩ (.slice none 0 0)) := ⟨_, rfl⟩
    rw [← hwF] at HX0 HK0 HKK
    rw [← hwF]
    clear hwF k0 k1 k2 k3 k4 k5 k6 f0 f1 f2 f3 f4 f5 f6
    obtain ⟨k0, k1, k2, k3, k4, k5, k6⟩ := key7 HX0.out
    refine bodyPost_ret (v := .tuple #[.agg #[.slice a0 n0 c0, .slice a1 n1 c1, .slice a2 n2 c2, .slice a3 n3 c3, .slice none 0 0, .slice none 0 0, .slice none 0 0], .bool false, .bool false]) (by simp [results, Tryz.results14, go_sem, k0, k1, k2, k3, k4, k5, k6]) rfl ⟨⟨a0, a1, a2, a3, none, none, none, n0, c0, n1, c1, n2, c2, n3, c3, 0, 0, 0, 0, 0, 0, false, false, rfl, ⟨fun h => by simp at h, fun h => absurd ((h ⟨HPU.out, HLT.out⟩).2 HP3.out HQ3.out) HEV.out⟩, by simp only [Bool.false_eq_true, false_iff]; exact fun h => HEV.out ((h.2 ⟨HPU.out, HLT.out⟩).2 HP3.out HQ3.out), fun h => absurd h (fun h => HEV.out ((h.2 ⟨HPU.out, HLT.out⟩).2 HP3.out HQ3.out))⟩, HK0.out⟩
  have HOD := Lib.hid (hb.1 rfl)
  clear hb
  obtain ⟨ke, hke⟩ : ∃ ke : Nat, k.E = (ke : Int) := ⟨k.E.toNat, by have := HPU.out.2.2.1; omega⟩
  have hke1 : 0 < ke := by have := HPU.out.2.2.1; omega
  have hke2 : ke < 2147483648 := by have := HPU.out.2.2.2.1; omega
  have HKE := Lib.hid hke
  clear hke
  have HN3 : Hid (0 < bval k.L1) := Lib.hid (by have := HPU.out.1; omega)
  have HG : Hid ((KeyOk (bval k.L1) k.E (bval k.L2) (bval k.L3) (bval k.L4) (bval k.L5) (bval k.L6) (bval k.L7) ∧ ((1 < bval k.L1 ∧ PubOk (bval k.L1) k.E) ∧ bval k.L2 < bval k.L1 → k.a5 ≠ none ∧ (2 < bval k.L3 → 2 < bval k.L4 → bval k.L3 % 2 = 1))) ↔ _) := Lib.hid ((show (KeyOk (bval k.L1) k.E (bval k.L2) (bval k.L3) (bval k.L4) (bval k.L5) (bval k.L6) (bval k.L7) ∧ ((1 < bval k.L1 ∧ PubOk (bval k.L1) k.E) ∧ bval k.L2 < bval k.L1 → k.a5 ≠ none ∧ (2 < bval k.L3 → 2 < bval k.L4 → bval k.L3 % 2 = 1))) ↔ _ from ⟨fun h => h.1, fun h => ⟨h, fun _ => ⟨HNIL.out, fun _ _ => HOD.out⟩⟩⟩).trans (keyOk_iff HKE.out HPU.out.2 HLT.out HP3.out HQ3.out))
  go_upto_region 14 with fail
  exact bp14_1 k w _ w.heap.size (w.heap.size + 1) a0 a1 a2 a3 (some ⟨we.heap.size, 0, none⟩) n0 c0 n1 c1 n2 c2 n3 c3 1 1 (bval k.L1) (bval k.L2) (bval k.L3) (bval k.L4) ke (KeyOk (bval k.L1) k.E (bval k.L2) (bval k.L3) (bval k.L4) (bval k.L5) (bval k.L6) (bval k.L7) ∧ ((1 < bval k.L1 ∧ PubOk (bval k.L1) k.E) ∧ bval k.L2 < bval k.L1 → k.a5 ≠ none ∧ (2 < bval k.L3 → 2 < bval k.L4 → bval k.L3 % 2 = 1))) ((1 < bval k.L1 ∧ PubOk (bval k.L1) k.E) ∧ bval k.L2 < bval k.L1 → k.a5 ≠ none ∧ (2 < bval k.L3 → 2 < bval k.L4 → bval k.L3 % 2 = 1)) (fun _ => ⟨HNIL.out, fun _ _ => HOD.out⟩) (by omega) (by omega) HX HKB HK HKE hke1 hke2 H0 H1 H2 H3 HI HT HP3 HQ3 HN3 HG (by assumption)

end Go.Proofs.YtnfjmngchapdnaaGreatDoor
