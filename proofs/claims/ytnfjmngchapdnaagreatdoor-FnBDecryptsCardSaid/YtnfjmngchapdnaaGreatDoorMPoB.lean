import Derived.Test.YtnfjmngchapdnaaGreatDoorMDec0
import Derived.Test.YtnfjmngchapdnaaGreatDoorMBDec
import Derived.Test.YtnfjmngchapdnaaGreatDoorMPo0
import Derived.Test.YtnfjmngchapdnaaGreatDoorMPo1
/- spec.BPrivateOf by each way. -/
namespace Go.Proofs.YtnfjmngchapdnaaGreatDoor
open Go.RowKit


/-- What BPrivateOf returns of a bare key. -/
def BPB (e : Ending) (w' : World) (ok : Prop) (NV DV : Nat) : Prop :=
  ∃ (a0 a1 a2 a3 a4 a5 a6 : Option Addr) (n0 c0 n1 c1 n2 c2 n3 c3 n4 c4 n5 c5 n6 c6 : Nat) (bi bs : Bool),
    e = .returned (.tuple #[.agg #[.slice a0 n0 c0, .slice a1 n1 c1, .slice a2 n2 c2, .slice a3 n3 c3, .slice a4 n4 c4, .slice a5 n5 c5, .slice a6 n6 c6], .bool bi, .bool bs]) ∧ (bs = true ↔ True) ∧ (bi = true ↔ ok) ∧ (ok → Num 63 w' a0 n0 c0 NV ∧ Num 63 w' a1 n1 c1 DV)
def bpPostB (w0 : World) (ok : Prop) (NV DV : Nat) (e : Ending) (w' : World) : Prop := BPB e w' ok NV DV ∧ Keeps [] w0 w'

set_option maxRecDepth 1000000 in
set_option maxHeartbeats 8000000 in
theorem privOf_bare (k : KA) (w : World) (hk : k.is w) (ht : k.tidy) :
    Calls Tryz.prog 14 #[.agg #[.slice k.a1 k.m1 k.c1, .int .i64 k.E, .slice k.a2 k.m2 k.c2, .slice k.a3 k.m3 k.c3, .slice k.a4 k.m4 k.c4, .slice k.a5 k.m5 k.c5, .slice k.a6 k.m6 k.c6, .slice k.a7 k.m7 k.c7], .int .i64 2] w (bpPostB w (BareOk (bval k.L1) (bval k.L2) k.E) (bval k.L1) (bval k.L2)) := by
  have hb0 : ((w.alloc (.cells #[.slice k.a1 k.m1 k.c1, .int .i64 k.E, .slice k.a2 k.m2 k.c2, .slice k.a3 k.m3 k.c3, .slice k.a4 k.m4 k.c4, .slice k.a5 k.m5 k.c5, .slice k.a6 k.m6 k.c6, .slice k.a7 k.m7 k.c7] 24)).alloc (.cells #[.slice none 0 0, .slice none 0 0, .slice none 0 0, .slice none 0 0, .slice none 0 0, .slice none 0 0, .slice none 0 0] 41)).heap[w.heap.size]? = some (.cells #[Value.slice k.a1 k.m1 k.c1, .int .i64 k.E, .slice k.a2 k.m2 k.c2, .slice k.a3 k.m3 k.c3, .slice k.a4 k.m4 k.c4, .slice k.a5 k.m5 k.c5, .slice k.a6 k.m6 k.c6, .slice k.a7 k.m7 k.c7] 24 (0, 0)) := by
    show ((w.heap.push _).push _)[w.heap.size]? = _
    rw [Array.getElem?_push, if_neg (by simp), Array.getElem?_push, if_pos (by simp)]
  have hx0 : ((w.alloc (.cells #[.slice k.a1 k.m1 k.c1, .int .i64 k.E, .slice k.a2 k.m2 k.c2, .slice k.a3 k.m3 k.c3, .slice k.a4 k.m4 k.c4, .slice k.a5 k.m5 k.c5, .slice k.a6 k.m6 k.c6, .slice k.a7 k.m7 k.c7] 24)).alloc (.cells #[.slice none 0 0, .slice none 0 0, .slice none 0 0, .slice none 0 0, .slice none 0 0, .slice none 0 0, .slice none 0 0] 41)).heap[w.heap.size + 1]? = some (.cells #[.slice none 0 0, .slice none 0 0, .slice none 0 0, .slice none 0 0, .slice none 0 0, .slice none 0 0, .slice none 0 0] 41 (0, 0)) := by
    show ((w.heap.push _).push _)[w.heap.size + 1]? = _
    rw [Array.getElem?_push, if_pos (by simp)]
  have hk0 : Keeps [] w ((w.alloc (.cells #[.slice k.a1 k.m1 k.c1, .int .i64 k.E, .slice k.a2 k.m2 k.c2, .slice k.a3 k.m3 k.c3, .slice k.a4 k.m4 k.c4, .slice k.a5 k.m5 k.c5, .slice k.a6 k.m6 k.c6, .slice k.a7 k.m7 k.c7] 24)).alloc (.cells #[.slice none 0 0, .slice none 0 0, .slice none 0 0, .slice none 0 0, .slice none 0 0, .slice none 0 0, .slice none 0 0] 41)) := ((Keeps.refl _ _).alloc _).alloc _
  obtain ⟨wa, hwa⟩ : ∃ wa, wa = ((w.alloc (.cells #[.slice k.a1 k.m1 k.c1, .int .i64 k.E, .slice k.a2 k.m2 k.c2, .slice k.a3 k.m3 k.c3, .slice k.a4 k.m4 k.c4, .slice k.a5 k.m5 k.c5, .slice k.a6 k.m6 k.c6, .slice k.a7 k.m7 k.c7] 24)).alloc (.cells #[.slice none 0 0, .slice none 0 0, .slice none 0 0, .slice none 0 0, .slice none 0 0, .slice none 0 0, .slice none 0 0] 41)) := ⟨_, rfl⟩
  rw [← hwa] at hb0 hx0 hk0
  have HKB := Lib.hid hb0; have HX := Lib.hid hx0; have HK := Lib.hid hk0; have HI := Lib.hid (hk.kept hk0); have HT := Lib.hid ht
  have hE := hk.E
  have q1 := hk.s1.1; have q2 := hk.s2.1; have q3 := hk.s3.1; have q4 := hk.s4.1
  have r1 := ht.t1.1; have r2 := ht.t2.1; have r3 := ht.t3.1; have r4 := ht.t4.1
  clear hb0 hx0 hk0 hk ht
  go_enter Tryz.func14, Tryz.ntmps14
  go_wp2_with fail
  rw [← hwa]
  clear hwa
  have mkS : ∀ w', Keeps [w.heap.size + 1] wa w' → ((convert 22 9 (.slice k.a1 k.m1 k.c1)).run Tryz.prog w' = .ok (.string (strB k.L1)) w' ∧ (convert 22 9 (.slice k.a2 k.m2 k.c2)).run Tryz.prog w' = .ok (.string (strB k.L2)) w') ∧ (w'.cell? ⟨w.heap.size, 0, none⟩ = some (.slice k.a1 k.m1 k.c1) ∧ w'.cell? ⟨w.heap.size, 2, none⟩ = some (.slice k.a2 k.m2 k.c2)) := fun w' hk => by
    have hb8 := key8 (blk_keeps HKB.out hk (by simp))
    have no8 : ∀ (j : Nat) (y : Int), (#[.slice none 0 0, .slice none 0 0, .slice none 0 0, .slice none 0 0, .slice none 0 0, .slice none 0 0, .slice none 0 0] : Array Value)[j]? ≠ some (.int .u8 y) := by
      intro j y h
      have h2 : j < 7 := (Array.getElem?_eq_some_iff.1 h).1
      obtain rfl | rfl | rfl | rfl | rfl | rfl | rfl : j = 0 ∨ j = 1 ∨ j = 2 ∨ j = 3 ∨ j = 4 ∨ j = 5 ∨ j = 6 := by omega
      all_goals simp at h
    have kk : ∀ {a : Option Addr} {m c : Nat} {L : List Nat}, SlB wa a m c L → SlB w' a m c L := fun h => h.keeps' hk (fun b o hL hB => by simpa using hB.ne_cells hL HX.out no8)
    exact ⟨⟨convert_strB (kk HI.out.s1), convert_strB (kk HI.out.s2)⟩, hb8.1, hb8.2.2.1⟩
  have MKS := Lib.hid mkS
  clear mkS
  have hS0 := MKS.out wa.drew (Keeps.refl _ _).drew
  refine wp_region_txt [0,0,0,2,0,0,0,2,0,2,0,2] (fun w' => ((convert 22 9 (.slice k.a1 k.m1 k.c1)).run Tryz.prog w' = .ok (.string (strB k.L1)) w' ∧ (convert 22 9 (.slice k.a2 k.m2 k.c2)).run Tryz.prog w' = .ok (.string (strB k.L2)) w') ∧ (w'.cell? ⟨w.heap.size, 0, none⟩ = some (.slice k.a1 k.m1 k.c1) ∧ w'.cell? ⟨w.heap.size, 2, none⟩ = some (.slice k.a2 k.m2 k.c2))) (by kernel_rfl) (by kernel_rfl) hS0 ?_
  obtain ⟨⟨g5, g6⟩, k5, k6⟩ := hS0
  simp only [withMarks]
  repeat (first
    | ((with_reducible refine txt_v (v := ?_) ?_ ?_); (any_goals ((with_reducible refine Yl.mk ?_ ?_); rfl; intro w hSw; (go_simp <;> (try go_bits) <;> (repeat (first | rw [if_pos (by omega)] | rw [if_neg (by omega)])) <;> with_reducible rfl))); try simp only [Act.put, List.setIfInBounds_toArray, List.set_cons_zero, List.set_cons_succ])
    | ((with_reducible refine txt_u ?_ ?_); rfl; try simp only [Act.put, List.setIfInBounds_toArray, List.set_cons_zero, List.set_cons_succ])
    | ((with_reducible refine txt_l (v := ?_) ?_ ?_); (any_goals ((with_reducible refine Reads.mk ?_ ?_); rfl; (go_simp <;> (try go_bits) <;> (repeat (first | rw [if_pos (by omega)] | rw [if_neg (by omega)])) <;> with_reducible rfl))); try simp only [Act.put, List.setIfInBounds_toArray, List.set_cons_zero, List.set_cons_succ])
    | ((with_reducible refine txt_e ?_ ?_); rfl; intro K hK; go_simp; (first | (refine hK _ _ (by first | exact MKS.out _ (((((Keeps.refl [] wa).drew.trans1 h1).trans1 h2).mono (by simp)).setCell (by simp) _ |>.setCell (by simp) _) | exact MKS.out _ (((((Keeps.refl [] wa).drew.trans1 h1).trans1 h2).mono (by simp)).setCell (by simp) _) | exact MKS.out _ (((Keeps.refl [] wa).drew.trans1 h1).trans1 h2 |>.mono (by simp)) | exact MKS.out _ ((Keeps.refl [] wa).drew.trans1 h1 |>.mono (by simp)) | exact ⟨⟨g5, g6⟩, k5, k6⟩) ?_) | ((first | (go_at_call 16; (with_reducible refine Calls.mono (num_of (w := wa) (L := k.L2) HI.out.s2 (by omega)) ?_); rintro e2 wv ⟨⟨a1, n1, c1, rfl, hy⟩, h2⟩; have HXv := Lib.hid (blk_keeps HX.out (((Keeps.refl [] wa).drew.trans1 h1).trans1 h2) (by simp)); obtain ⟨m0, m1, m2, m3, m4, m5, m6⟩ := key7 HXv.out; have ff : ∀ j, wv.frozen? ⟨w.heap.size + 1, j, none⟩ = false := (fun j => by simp [World.frozen?, HXv.out]); have f0 := ff 0; have f1 := ff 1; have f2 := ff 2; have f3 := ff 3; clear ff) | (go_at_call 16; (with_reducible refine Calls.mono (num_of (w := wa) (L := k.L1) HI.out.s1 (by omega)) ?_); rintro e1 wu ⟨⟨a0, n0, c0, rfl, hx⟩, h1⟩)); dsimp only; refine hK _ _ (by first | exact MKS.out _ (((((Keeps.refl [] wa).drew.trans1 h1).trans1 h2).mono (by simp)).setCell (by simp) _ |>.setCell (by simp) _) | exact MKS.out _ (((((Keeps.refl [] wa).drew.trans1 h1).trans1 h2).mono (by simp)).setCell (by simp) _) | exact MKS.out _ (((Keeps.refl [] wa).drew.trans1 h1).trans1 h2 |>.mono (by simp)) | exact MKS.out _ ((Keeps.refl [] wa).drew.trans1 h1 |>.mono (by simp)) | exact ⟨⟨g5, g6⟩, k5, k6⟩) ?_)); clear hK K; try simp only [Act.put, List.setIfInBounds_toArray, List.set_cons_zero, List.set_cons_succ]))
  refine txt_nil ?_
  clear m0 m1 m2 m3 m4 m5 m6 f0 f1 f2 f3 g5 g6 k5 k6
  have hs : Keeps [] wa wv := ((Keeps.refl [] wa).drew.trans1 h1).trans1 h2
  have hk2 : Keeps [w.heap.size + 1] wv ((wv.setCell ⟨w.heap.size + 1, 0, none⟩ (.slice a0 n0 c0)).setCell ⟨w.heap.size + 1, 1, none⟩ (.slice a1 n1 c1)) := ((Keeps.refl _ _).setCell (by simp) _).setCell (by simp) _
  have hk3 : Keeps [] w ((wv.setCell ⟨w.heap.size + 1, 0, none⟩ (.slice a0 n0 c0)).setCell ⟨w.heap.size + 1, 1, none⟩ (.slice a1 n1 c1)) := ((HK.out.trans1 hs).setCell (fun h => absurd h (by simp)) _).setCell (fun h => absurd h (by simp)) _
  have hxx : ((wv.setCell ⟨w.heap.size + 1, 0, none⟩ (.slice a0 n0 c0)).setCell ⟨w.heap.size + 1, 1, none⟩ (.slice a1 n1 c1)).heap[w.heap.size + 1]? = some (.cells #[.slice a0 n0 c0, .slice a1 n1 c1, .slice none 0 0, .slice none 0 0, .slice none 0 0, .slice none 0 0, .slice none 0 0] 41 (0, 0)) := MHdr.modify (C := #[.slice a0 n0 c0, .slice none 0 0, .slice none 0 0, .slice none 0 0, .slice none 0 0, .slice none 0 0, .slice none 0 0]) (MHdr.modify HXv.out (by simp)) (by simp)
  obtain ⟨wb, hw2⟩ : ∃ wb, wb = ((wv.setCell ⟨w.heap.size + 1, 0, none⟩ (.slice a0 n0 c0)).setCell ⟨w.heap.size + 1, 1, none⟩ (.slice a1 n1 c1)) := ⟨_, rfl⟩
  rw [← hw2] at hk2 hk3 hxx
  rw [← hw2]
  clear hw2
  have no8 : ∀ (j : Nat) (y : Int), (#[.slice none 0 0, .slice none 0 0, .slice none 0 0, .slice none 0 0, .slice none 0 0, .slice none 0 0, .slice none 0 0] : Array Value)[j]? ≠ some (.int .u8 y) := by
    intro j y h
    have h2 : j < 7 := (Array.getElem?_eq_some_iff.1 h).1
    obtain rfl | rfl | rfl | rfl | rfl | rfl | rfl : j = 0 ∨ j = 1 ∨ j = 2 ∨ j = 3 ∨ j = 4 ∨ j = 5 ∨ j = 6 := by omega
    all_goals simp at h
  have kk : ∀ {a : Option Addr} {m c : Nat} {L : List Nat}, SlB wv a m c L → SlB wb a m c L := fun h => h.keeps' hk2 (fun b o hL hB => by simpa using hB.ne_cells hL HXv.out no8)
  have iv := HI.out.kept hs
  have NM : ∀ {q : Nat} {a : Option Addr} {n c x : Nat}, Num q wv a n c x → Num q wb a n c x := fun h => h.keepsB hk2 HXv.out (no_u32 _ _ _ _ _ _ _ _ _ _ _ _ _ _ _ _ _ _ _ _ _)
  replace HKB := Lib.hid (blk_keeps (blk_keeps HKB.out hs (by simp)) hk2 (by simp))
  replace HI : Hid (k.is wb) := Lib.hid ⟨kk iv.s1, kk iv.s2, kk iv.s3, kk iv.s4, kk iv.s5, kk iv.s6, kk iv.s7, iv.E⟩

  have H0 := Lib.hid (NM (hx.kept h2)); have H1 := Lib.hid (NM hy)
  replace HX := Lib.hid hxx; replace HK := Lib.hid hk3
  clear hk2 hk3 hxx hs h1 h2 hx hy no8 kk iv NM MKS HXv
  obtain ⟨k0, k1, k2, k3, k4, k5, k6, k7⟩ := key8 HKB.out
  obtain ⟨m0, m1, _, _, _, _, _⟩ := key7 HX.out
  go_wp2_with fail
  refine (bPublicIs_any k.a1 k.m1 k.c1 k.L1 k.E k.a2 k.a3 k.a4 k.a5 k.a6 k.a7 k.m2 k.c2 k.m3 k.c3 k.m4 k.c4 k.m5 k.c5 k.m6 k.c6 k.m7 k.c7 _ HI.out.s1 (by omega) hE).mono ?_
  rintro e wc ⟨⟨b, rfl, hb⟩, hs⟩
  clear k0 k1 k2 k3 k4 k5 k6 k7 m0 m1
  replace HKB := Lib.hid (blk_keeps HKB.out hs (by simp)); replace HX := Lib.hid (blk_keeps HX.out hs (by simp)); replace HK := Lib.hid (HK.out.trans1 hs); replace HI := Lib.hid (HI.out.kept hs)
  replace H0 := Lib.hid (H0.out.kept hs); replace H1 := Lib.hid (H1.out.kept hs)
  clear hs
  cases b
  · have HNP : Hid (¬ (1 < bval k.L1 ∧ PubOk (bval k.L1) k.E)) := Lib.hid fun h => by have := hb.2 h; simp at this
    clear hb
    have hx0 : (((((((wc.setCell ⟨w.heap.size + 1, 0, none⟩ (.slice a0 n0 c0)).setCell ⟨w.heap.size + 1, 1, none⟩ (.slice a1 n1 c1)).setCell ⟨w.heap.size + 1, 2, none⟩ (.slice none 0 0)).setCell ⟨w.heap.size + 1, 3, none⟩ (.slice none 0 0)).setCell ⟨w.heap.size + 1, 4, none⟩ (.slice none 0 0)).setCell ⟨w.heap.size + 1, 5, none⟩ (.slice none 0 0)).setCell ⟨w.heap.size + 1, 6, none⟩ (.slice none 0 0)).heap[w.heap.size + 1]? = some (.cells #[.slice a0 n0 c0, .slice a1 n1 c1, .slice none 0 0, .slice none 0 0, .slice none 0 0, .slice none 0 0, .slice none 0 0] 41 (0, 0)) := set7 HX.out
    have hk0 : Keeps [] w (((((((wc.setCell ⟨w.heap.size + 1, 0, none⟩ (.slice a0 n0 c0)).setCell ⟨w.heap.size + 1, 1, none⟩ (.slice a1 n1 c1)).setCell ⟨w.heap.size + 1, 2, none⟩ (.slice none 0 0)).setCell ⟨w.heap.size + 1, 3, none⟩ (.slice none 0 0)).setCell ⟨w.heap.size + 1, 4, none⟩ (.slice none 0 0)).setCell ⟨w.heap.size + 1, 5, none⟩ (.slice none 0 0)).setCell ⟨w.heap.size + 1, 6, none⟩ (.slice none 0 0)) := set7_keeps HK.out (by omega)
    have hk1 : Keeps [w.heap.size + 1] wc (((((((wc.setCell ⟨w.heap.size + 1, 0, none⟩ (.slice a0 n0 c0)).setCell ⟨w.heap.size + 1, 1, none⟩ (.slice a1 n1 c1)).setCell ⟨w.heap.size + 1, 2, none⟩ (.slice none 0 0)).setCell ⟨w.heap.size + 1, 3, none⟩ (.slice none 0 0)).setCell ⟨w.heap.size + 1, 4, none⟩ (.slice none 0 0)).setCell ⟨w.heap.size + 1, 5, none⟩ (.slice none 0 0)).setCell ⟨w.heap.size + 1, 6, none⟩ (.slice none 0 0)) := set7_keeps (Keeps.refl _ _) (by simp)
    obtain ⟨k0, k1, k2, k3, k4, k5, k6⟩ := key7 HX.out
    have ff : ∀ j, wc.frozen? ⟨w.heap.size + 1, j, none⟩ = false := fun j => by simp [World.frozen?, HX.out]
    have f0 := ff 0; have f1 := ff 1; have f2 := ff 2; have f3 := ff 3; have f4 := ff 4; have f5 := ff 5; have f6 := ff 6
    have HX0 := Lib.hid hx0; have HK0 := Lib.hid hk0; have HKK := Lib.hid hk1
    clear ff hx0 hk0 hk1
    go_wp2
    obtain ⟨wF, hwF⟩ : ∃ wF, wF = (((((((wc.setCell ⟨w.heap.size + 1, 0, none⟩ (.slice a0 n0 c0)).setCell ⟨w.heap.size + 1, 1, none⟩ (.slice a1 n1 c1)).setCell ⟨w.heap.size + 1, 2, none⟩ (.slice none 0 0)).setCell ⟨w.heap.size + 1, 3, none⟩ (.slice none 0 0)).setCell ⟨w.heap.size + 1, 4, none⟩ (.slice none 0 0)).setCell ⟨w.heap.size + 1, 5, none⟩ (.slice none 0 0)).setCell ⟨w.heap.size + 1, 6, none⟩ (.slice none 0 0)) := ⟨_, rfl⟩
    rw [← hwF] at HX0 HK0 HKK
    rw [← hwF]
    clear hwF k0 k1 k2 k3 k4 k5 k6 f0 f1 f2 f3 f4 f5 f6
    obtain ⟨k0, k1, k2, k3, k4, k5, k6⟩ := key7 HX0.out
    refine bodyPost_ret (v := .tuple #[.agg #[.slice a0 n0 c0, .slice a1 n1 c1, .slice none 0 0, .slice none 0 0, .slice none 0 0, .slice none 0 0, .slice none 0 0], .bool false, .bool true]) (by simp [results, Tryz.results14, go_sem, k0, k1, k2, k3, k4, k5, k6]) rfl ⟨⟨a0, a1, none, none, none, none, none, n0, c0, n1, c1, 0, 0, 0, 0, 0, 0, 0, 0, 0, 0, false, true, rfl, ⟨fun _ => trivial, fun _ => rfl⟩, by simp only [Bool.false_eq_true, false_iff]; exact fun h => HNP.out ⟨h.1, h.2.1⟩, fun h => absurd h (fun h => HNP.out ⟨h.1, h.2.1⟩)⟩, HK0.out⟩
  have HPU := Lib.hid (hb.1 rfl)
  clear hb
  obtain ⟨m0, m1, _, _, _, _, _⟩ := key7 HX.out
  go_wp2_with fail
  by_cases hlt : bval k.L2 < bval k.L1
  rotate_left
  · refine (num_nlt H1.out H0.out (by omega) (by omega) hlt).mono ?_
    rintro e wd ⟨⟨o, rfl, fo, fo2⟩, hs⟩
    replace HX := Lib.hid (blk_keeps HX.out hs (by simp)); replace HK := Lib.hid (HK.out.trans1 hs)
    have HLT := Lib.hid hlt
    clear hs hlt m0 m1
    have hx0 : (((((((wd.setCell ⟨w.heap.size + 1, 0, none⟩ (.slice a0 n0 c0)).setCell ⟨w.heap.size + 1, 1, none⟩ (.slice a1 n1 c1)).setCell ⟨w.heap.size + 1, 2, none⟩ (.slice none 0 0)).setCell ⟨w.heap.size + 1, 3, none⟩ (.slice none 0 0)).setCell ⟨w.heap.size + 1, 4, none⟩ (.slice none 0 0)).setCell ⟨w.heap.size + 1, 5, none⟩ (.slice none 0 0)).setCell ⟨w.heap.size + 1, 6, none⟩ (.slice none 0 0)).heap[w.heap.size + 1]? = some (.cells #[.slice a0 n0 c0, .slice a1 n1 c1, .slice none 0 0, .slice none 0 0, .slice none 0 0, .slice none 0 0, .slice none 0 0] 41 (0, 0)) := set7 HX.out
    have hk0 : Keeps [] w (((((((wd.setCell ⟨w.heap.size + 1, 0, none⟩ (.slice a0 n0 c0)).setCell ⟨w.heap.size + 1, 1, none⟩ (.slice a1 n1 c1)).setCell ⟨w.heap.size + 1, 2, none⟩ (.slice none 0 0)).setCell ⟨w.heap.size + 1, 3, none⟩ (.slice none 0 0)).setCell ⟨w.heap.size + 1, 4, none⟩ (.slice none 0 0)).setCell ⟨w.heap.size + 1, 5, none⟩ (.slice none 0 0)).setCell ⟨w.heap.size + 1, 6, none⟩ (.slice none 0 0)) := set7_keeps HK.out (by omega)
    have hk1 : Keeps [w.heap.size + 1] wd (((((((wd.setCell ⟨w.heap.size + 1, 0, none⟩ (.slice a0 n0 c0)).setCell ⟨w.heap.size + 1, 1, none⟩ (.slice a1 n1 c1)).setCell ⟨w.heap.size + 1, 2, none⟩ (.slice none 0 0)).setCell ⟨w.heap.size + 1, 3, none⟩ (.slice none 0 0)).setCell ⟨w.heap.size + 1, 4, none⟩ (.slice none 0 0)).setCell ⟨w.heap.size + 1, 5, none⟩ (.slice none 0 0)).setCell ⟨w.heap.size + 1, 6, none⟩ (.slice none 0 0)) := set7_keeps (Keeps.refl _ _) (by simp)
    obtain ⟨k0, k1, k2, k3, k4, k5, k6⟩ := key7 HX.out
    have ff : ∀ j, wd.frozen? ⟨w.heap.size + 1, j, none⟩ = false := fun j => by simp [World.frozen?, HX.out]
    have f0 := ff 0; have f1 := ff 1; have f2 := ff 2; have f3 := ff 3; have f4 := ff 4; have f5 := ff 5; have f6 := ff 6
    have HX0 := Lib.hid hx0; have HK0 := Lib.hid hk0; have HKK := Lib.hid hk1
    clear ff hx0 hk0 hk1
    go_wp2
    obtain ⟨wF, hwF⟩ : ∃ wF, wF = (((((((wd.setCell ⟨w.heap.size + 1, 0, none⟩ (.slice a0 n0 c0)).setCell ⟨w.heap.size + 1, 1, none⟩ (.slice a1 n1 c1)).setCell ⟨w.heap.size + 1, 2, none⟩ (.slice none 0 0)).setCell ⟨w.heap.size + 1, 3, none⟩ (.slice none 0 0)).setCell ⟨w.heap.size + 1, 4, none⟩ (.slice none 0 0)).setCell ⟨w.heap.size + 1, 5, none⟩ (.slice none 0 0)).setCell ⟨w.heap.size + 1, 6, none⟩ (.slice none 0 0)) := ⟨_, rfl⟩
    rw [← hwF] at HX0 HK0 HKK
    rw [← hwF]
    clear hwF k0 k1 k2 k3 k4 k5 k6 f0 f1 f2 f3 f4 f5 f6
    obtain ⟨k0, k1, k2, k3, k4, k5, k6⟩ := key7 HX0.out
    refine bodyPost_ret (v := .tuple #[.agg #[.slice a0 n0 c0, .slice a1 n1 c1, .slice none 0 0, .slice none 0 0, .slice none 0 0, .slice none 0 0, .slice none 0 0], .bool false, .bool true]) (by simp [results, Tryz.results14, go_sem, k0, k1, k2, k3, k4, k5, k6]) rfl ⟨⟨a0, a1, none, none, none, none, none, n0, c0, n1, c1, 0, 0, 0, 0, 0, 0, 0, 0, 0, 0, false, true, rfl, ⟨fun _ => trivial, fun _ => rfl⟩, by simp only [Bool.false_eq_true, false_iff]; exact fun h => HLT.out h.2.2, fun h => absurd h (fun h => HLT.out h.2.2)⟩, HK0.out⟩
  refine (num_lt H1.out H0.out (by omega) (by omega) hlt).mono ?_
  rintro e wd ⟨rfl, hs⟩
  replace HKB := Lib.hid (blk_keeps HKB.out hs (by simp)); replace HX := Lib.hid (blk_keeps HX.out hs (by simp)); replace HK := Lib.hid (HK.out.trans1 hs); replace HI := Lib.hid (HI.out.kept hs)
  replace H0 := Lib.hid (H0.out.kept hs); replace H1 := Lib.hid (H1.out.kept hs)
  have HLT := Lib.hid hlt
  clear hs hlt m0 m1
  have hx0 : (((((((wd.setCell ⟨w.heap.size + 1, 0, none⟩ (.slice a0 n0 c0)).setCell ⟨w.heap.size + 1, 1, none⟩ (.slice a1 n1 c1)).setCell ⟨w.heap.size + 1, 2, none⟩ (.slice none 0 0)).setCell ⟨w.heap.size + 1, 3, none⟩ (.slice none 0 0)).setCell ⟨w.heap.size + 1, 4, none⟩ (.slice none 0 0)).setCell ⟨w.heap.size + 1, 5, none⟩ (.slice none 0 0)).setCell ⟨w.heap.size + 1, 6, none⟩ (.slice none 0 0)).heap[w.heap.size + 1]? = some (.cells #[.slice a0 n0 c0, .slice a1 n1 c1, .slice none 0 0, .slice none 0 0, .slice none 0 0, .slice none 0 0, .slice none 0 0] 41 (0, 0)) := set7 HX.out
  have hk0 : Keeps [] w (((((((wd.setCell ⟨w.heap.size + 1, 0, none⟩ (.slice a0 n0 c0)).setCell ⟨w.heap.size + 1, 1, none⟩ (.slice a1 n1 c1)).setCell ⟨w.heap.size + 1, 2, none⟩ (.slice none 0 0)).setCell ⟨w.heap.size + 1, 3, none⟩ (.slice none 0 0)).setCell ⟨w.heap.size + 1, 4, none⟩ (.slice none 0 0)).setCell ⟨w.heap.size + 1, 5, none⟩ (.slice none 0 0)).setCell ⟨w.heap.size + 1, 6, none⟩ (.slice none 0 0)) := set7_keeps HK.out (by omega)
  have hk1 : Keeps [w.heap.size + 1] wd (((((((wd.setCell ⟨w.heap.size + 1, 0, none⟩ (.slice a0 n0 c0)).setCell ⟨w.heap.size + 1, 1, none⟩ (.slice a1 n1 c1)).setCell ⟨w.heap.size + 1, 2, none⟩ (.slice none 0 0)).setCell ⟨w.heap.size + 1, 3, none⟩ (.slice none 0 0)).setCell ⟨w.heap.size + 1, 4, none⟩ (.slice none 0 0)).setCell ⟨w.heap.size + 1, 5, none⟩ (.slice none 0 0)).setCell ⟨w.heap.size + 1, 6, none⟩ (.slice none 0 0)) := set7_keeps (Keeps.refl _ _) (by simp)
  obtain ⟨k0, k1, k2, k3, k4, k5, k6⟩ := key7 HX.out
  have ff : ∀ j, wd.frozen? ⟨w.heap.size + 1, j, none⟩ = false := fun j => by simp [World.frozen?, HX.out]
  have f0 := ff 0; have f1 := ff 1; have f2 := ff 2; have f3 := ff 3; have f4 := ff 4; have f5 := ff 5; have f6 := ff 6
  have HX0 := Lib.hid hx0; have HK0 := Lib.hid hk0; have HKK := Lib.hid hk1
  clear ff hx0 hk0 hk1
  go_wp2
  obtain ⟨wF, hwF⟩ : ∃ wF, wF = (((((((wd.setCell ⟨w.heap.size + 1, 0, none⟩ (.slice a0 n0 c0)).setCell ⟨w.heap.size + 1, 1, none⟩ (.slice a1 n1 c1)).setCell ⟨w.heap.size + 1, 2, none⟩ (.slice none 0 0)).setCell ⟨w.heap.size + 1, 3, none⟩ (.slice none 0 0)).setCell ⟨w.heap.size + 1, 4, none⟩ (.slice none 0 0)).setCell ⟨w.heap.size + 1, 5, none⟩ (.slice none 0 0)).setCell ⟨w.heap.size + 1, 6, none⟩ (.slice none 0 0)) := ⟨_, rfl⟩
  rw [← hwF] at HX0 HK0 HKK
  rw [← hwF]
  clear hwF k0 k1 k2 k3 k4 k5 k6 f0 f1 f2 f3 f4 f5 f6
  obtain ⟨k0, k1, k2, k3, k4, k5, k6⟩ := key7 HX0.out
  refine bodyPost_ret (v := .tuple #[.agg #[.slice a0 n0 c0, .slice a1 n1 c1, .slice none 0 0, .slice none 0 0, .slice none 0 0, .slice none 0 0, .slice none 0 0], .bool true, .bool true]) (by simp [results, Tryz.results14, go_sem, k0, k1, k2, k3, k4, k5, k6]) rfl ⟨⟨a0, a1, none, none, none, none, none, n0, c0, n1, c1, 0, 0, 0, 0, 0, 0, 0, 0, 0, 0, true, true, rfl, by simp, by simp only [true_iff]; exact ⟨HPU.out.1, HPU.out.2, HLT.out⟩, fun _ => ⟨H0.out.keepsB HKK.out HX.out (no_u32 _ _ _ _ _ _ _ _ _ _ _ _ _ _ _ _ _ _ _ _ _), H1.out.keepsB HKK.out HX.out (no_u32 _ _ _ _ _ _ _ _ _ _ _ _ _ _ _ _ _ _ _ _ _)⟩⟩, HK0.out⟩

end Go.Proofs.YtnfjmngchapdnaaGreatDoor

/- keyOf and BPrivateOf, by each way, under one form each. -/
namespace Go.Proofs.YtnfjmngchapdnaaGreatDoor
open Go.RowKit

/-- A key with primes, of which it is known that they are prime, decrypts. -/
theorem kd_of_pk {Z : PK} {w : World} {a0 : Addr} {N : Nat} {E : Int} {D P Q DP DQ QI : Nat} (hI : Z.is w) (hh : Z.has N E D P Q DP DQ QI) (hok : KeyOk N E D P Q DP DQ QI) (hp : Pr P) (hq : Pr Q) (hg : Gd w a0) : KD.is ⟨Z.pk, Z.N, Z.E, Z.D, a0⟩ w := by
  have hko : KeyOk Z.N.v Z.E Z.D Z.P.v Z.Q.v (bval Z.LP) (bval Z.LQ) Z.QI := by rw [hh.n, hh.e, hh.d, hh.p, hh.q, hh.dp, hh.dq, hh.i]; exact hok
  exact ⟨hI.pub, hI.N, hg, fun w2 s mb cb L hk2 hs hm => decrypt_pk Z s mb cb L a0 w2 (hI.kept hk2) hs (hg.kept hk2) hko (by rw [hh.p]; exact hp) (by rw [hh.q]; exact hq) hm⟩
theorem kd_of_pb {Z : PB} {w : World} {a0 : Addr} (hI : Z.is w) (hodd : Z.N.v % 2 = 1) (hD : Z.D ≤ Z.N.v) (hg : Gd w a0) : KD.is ⟨Z.pk, Z.N, Z.E, Z.D, a0⟩ w :=
  ⟨hI.pub, hI.N, hg, fun w2 s mb cb L hk2 hs hm => decrypt_pb Z s mb cb L a0 w2 (hI.kept hk2) hs (hg.kept hk2) hodd hD hm⟩

section
variable (k : KA) (w : World) (hk : k.is w) (ht : k.tidy) (a0 : Addr) (hg : Gd w a0)
include hk ht hg
theorem keyed_0 (hp : Pr (bval k.L3)) (hq : Pr (bval k.L4)) :
    Keyed (.agg #[.slice k.a1 k.m1 k.c1, .int .i64 k.E, .slice k.a2 k.m2 k.c2, .slice k.a3 k.m3 k.c3, .slice k.a4 k.m4 k.c4, .slice k.a5 k.m5 k.c5, .slice k.a6 k.m6 k.c6, .slice k.a7 k.m7 k.c7]) 0 w
      (PrimesOk (bval k.L1) k.E (bval k.L2) (bval k.L3) (bval k.L4)) (bval k.L1) (bval k.L2) a0 := by
  intro w' hkw
  refine (keyOf_primes k w' (hk.kept hkw) ht).mono ?_
  rintro e w'' ⟨⟨hok, Z, rfl, hI, hh⟩ | ⟨hno, rfl⟩, h1⟩
  · exact ⟨.inl ⟨hok, ⟨Z.pk, Z.N, Z.E, Z.D, a0⟩, rfl, kd_of_pk hI hh hok.2 hp hq ((hg.kept hkw).kept h1), hh.n, hh.d, rfl⟩, h1⟩
  · exact ⟨.inr ⟨hno, rfl⟩, h1⟩
theorem keyed_1 (hp : Pr (bval k.L3)) (hq : Pr (bval k.L4)) (hs : (1 < bval k.L1 ∧ PubOk (bval k.L1) k.E) ∧ bval k.L2 < bval k.L1 → k.a5 ≠ none ∧ (2 < bval k.L3 → 2 < bval k.L4 → bval k.L3 % 2 = 1)) :
    Keyed (.agg #[.slice k.a1 k.m1 k.c1, .int .i64 k.E, .slice k.a2 k.m2 k.c2, .slice k.a3 k.m3 k.c3, .slice k.a4 k.m4 k.c4, .slice k.a5 k.m5 k.c5, .slice k.a6 k.m6 k.c6, .slice k.a7 k.m7 k.c7]) 1 w
      (KeyOk (bval k.L1) k.E (bval k.L2) (bval k.L3) (bval k.L4) (bval k.L5) (bval k.L6) (bval k.L7) ∧ ((1 < bval k.L1 ∧ PubOk (bval k.L1) k.E) ∧ bval k.L2 < bval k.L1 → k.a5 ≠ none ∧ (2 < bval k.L3 → 2 < bval k.L4 → bval k.L3 % 2 = 1))) (bval k.L1) (bval k.L2) a0 := by
  intro w' hkw
  by_cases hnil : k.a5 = none
  · have hnb : ¬ BareOk (bval k.L1) (bval k.L2) k.E := fun h => (hs ⟨⟨h.1, h.2.1⟩, h.2.2⟩).1 hnil
    refine (keyOf_all_nil k w' (hk.kept hkw) ht hnil hnb).mono ?_
    rintro e w'' ⟨rfl, h1⟩
    exact ⟨.inr ⟨fun h => hnb ⟨by have := h.1.pN; have := h.1.p3; omega, h.1.pub, h.1.lt⟩, rfl⟩, h1⟩
  · refine (keyOf_all k w' (hk.kept hkw) ht hnil).mono ?_
    rintro e w'' ⟨⟨hok, Z, rfl, hI, hh⟩ | ⟨hno, rfl⟩, h1⟩
    · exact ⟨.inl ⟨⟨hok, hs⟩, ⟨Z.pk, Z.N, Z.E, Z.D, a0⟩, rfl, kd_of_pk hI hh hok hp hq ((hg.kept hkw).kept h1), hh.n, hh.d, rfl⟩, h1⟩
    · exact ⟨.inr ⟨fun h => hno h.1, rfl⟩, h1⟩
theorem keyed_2 :
    Keyed (.agg #[.slice k.a1 k.m1 k.c1, .int .i64 k.E, .slice k.a2 k.m2 k.c2, .slice k.a3 k.m3 k.c3, .slice k.a4 k.m4 k.c4, .slice k.a5 k.m5 k.c5, .slice k.a6 k.m6 k.c6, .slice k.a7 k.m7 k.c7]) 2 w
      (BareOk (bval k.L1) (bval k.L2) k.E) (bval k.L1) (bval k.L2) a0 := by
  intro w' hkw
  refine (keyOf_bare k w' (hk.kept hkw) ht).mono ?_
  rintro e w'' ⟨⟨hok, Z, rfl, hI, hN, hE, hD⟩ | ⟨hno, rfl⟩, h1⟩
  · exact ⟨.inl ⟨hok, ⟨Z.pk, Z.N, Z.E, Z.D, a0⟩, rfl, kd_of_pb hI (by rw [hN]; exact hok.2.1.1) (by rw [hN, hD]; exact Nat.le_of_lt hok.2.2) ((hg.kept hkw).kept h1), hN, hD, rfl⟩, h1⟩
  · exact ⟨.inr ⟨hno, rfl⟩, h1⟩
end

/-- What BPrivateOf tells of a key in a way. -/
def PrivGot (e : Ending) (w' : World) (ok said : Prop) (N D : Nat) : Prop :=
  ∃ (a0 a1 a2 a3 a4 a5 a6 : Option Addr) (n0 c0 n1 c1 n2 c2 n3 c3 n4 c4 n5 c5 n6 c6 : Nat) (bi bs : Bool),
    e = .returned (.tuple #[.agg #[.slice a0 n0 c0, .slice a1 n1 c1, .slice a2 n2 c2, .slice a3 n3 c3, .slice a4 n4 c4, .slice a5 n5 c5, .slice a6 n6 c6], .bool bi, .bool bs]) ∧ (bs = true ↔ said) ∧ (bi = true ↔ ok) ∧
      (ok → Num 63 w' a0 n0 c0 N ∧ Num 63 w' a1 n1 c1 D)
def Told (v : Value) (way : Int) (w : World) (ok said : Prop) (N D : Nat) : Prop :=
  ∀ w', Keeps [] w w' → Calls Tryz.prog 14 #[v, .int .i64 way] w' fun e w'' => PrivGot e w'' ok said N D ∧ Keeps [] w' w''
theorem Keyed.kept {v : Value} {way : Int} {w w' : World} {ok : Prop} {N D : Nat} {a0 : Addr} (h : Keyed v way w ok N D a0) (hk : Keeps [] w w') : Keyed v way w' ok N D a0 := fun w2 h2 => h w2 (hk.trans1 h2)
theorem Told.kept {v : Value} {way : Int} {w w' : World} {ok said : Prop} {N D : Nat} (h : Told v way w ok said N D) (hk : Keeps [] w w') : Told v way w' ok said N D := fun w2 h2 => h w2 (hk.trans1 h2)

section
variable (k : KA) (w : World) (hk : k.is w) (ht : k.tidy)
include hk ht
theorem told_0 :
    Told (.agg #[.slice k.a1 k.m1 k.c1, .int .i64 k.E, .slice k.a2 k.m2 k.c2, .slice k.a3 k.m3 k.c3, .slice k.a4 k.m4 k.c4, .slice k.a5 k.m5 k.c5, .slice k.a6 k.m6 k.c6, .slice k.a7 k.m7 k.c7]) 0 w
      (PrimesOk (bval k.L1) k.E (bval k.L2) (bval k.L3) (bval k.L4)) True (bval k.L1) (bval k.L2) := by
  intro w' hkw
  refine (privOf_primes k w' (hk.kept hkw) ht).mono ?_
  rintro e w'' ⟨⟨a0, a1, a2, a3, a4, a5, a6, n0, c0, n1, c1, n2, c2, n3, c3, n4, c4, n5, c5, n6, c6, bi, bs, rfl, h1, h2, h3⟩, h4⟩
  exact ⟨⟨a0, a1, a2, a3, a4, a5, a6, n0, c0, n1, c1, n2, c2, n3, c3, n4, c4, n5, c5, n6, c6, bi, bs, rfl, h1, h2, fun h => ⟨(h3 h).1, (h3 h).2.1⟩⟩, h4⟩
theorem told_1 :
    Told (.agg #[.slice k.a1 k.m1 k.c1, .int .i64 k.E, .slice k.a2 k.m2 k.c2, .slice k.a3 k.m3 k.c3, .slice k.a4 k.m4 k.c4, .slice k.a5 k.m5 k.c5, .slice k.a6 k.m6 k.c6, .slice k.a7 k.m7 k.c7]) 1 w
      (KeyOk (bval k.L1) k.E (bval k.L2) (bval k.L3) (bval k.L4) (bval k.L5) (bval k.L6) (bval k.L7) ∧ ((1 < bval k.L1 ∧ PubOk (bval k.L1) k.E) ∧ bval k.L2 < bval k.L1 → k.a5 ≠ none ∧ (2 < bval k.L3 → 2 < bval k.L4 → bval k.L3 % 2 = 1)))
      ((1 < bval k.L1 ∧ PubOk (bval k.L1) k.E) ∧ bval k.L2 < bval k.L1 → k.a5 ≠ none ∧ (2 < bval k.L3 → 2 < bval k.L4 → bval k.L3 % 2 = 1)) (bval k.L1) (bval k.L2) := by
  intro w' hkw
  refine (privOf_all k w' (hk.kept hkw) ht).mono ?_
  rintro e w'' ⟨⟨a0, a1, a2, a3, a4, a5, a6, n0, c0, n1, c1, n2, c2, n3, c3, n4, c4, n5, c5, n6, c6, bi, bs, rfl, h1, h2, h3⟩, h4⟩
  exact ⟨⟨a0, a1, a2, a3, a4, a5, a6, n0, c0, n1, c1, n2, c2, n3, c3, n4, c4, n5, c5, n6, c6, bi, bs, rfl, h1, h2, fun h => ⟨(h3 h).1, (h3 h).2.1⟩⟩, h4⟩
theorem told_2 :
    Told (.agg #[.slice k.a1 k.m1 k.c1, .int .i64 k.E, .slice k.a2 k.m2 k.c2, .slice k.a3 k.m3 k.c3, .slice k.a4 k.m4 k.c4, .slice k.a5 k.m5 k.c5, .slice k.a6 k.m6 k.c6, .slice k.a7 k.m7 k.c7]) 2 w
      (BareOk (bval k.L1) (bval k.L2) k.E) True (bval k.L1) (bval k.L2) := by
  intro w' hkw
  refine (privOf_bare k w' (hk.kept hkw) ht).mono ?_
  rintro e w'' ⟨⟨a0, a1, a2, a3, a4, a5, a6, n0, c0, n1, c1, n2, c2, n3, c3, n4, c4, n5, c5, n6, c6, bi, bs, rfl, h1, h2, h3⟩, h4⟩
  exact ⟨⟨a0, a1, a2, a3, a4, a5, a6, n0, c0, n1, c1, n2, c2, n3, c3, n4, c4, n5, c5, n6, c6, bi, bs, rfl, h1, h2, h3⟩, h4⟩
end

end Go.Proofs.YtnfjmngchapdnaaGreatDoor
