import Derived.Test.YtnfjmngchapdnaaGreatDoorMPoB
import Derived.Test.YtnfjmngchapdnaaGreatDoorMSpec2
/- spec.BOpened. -/
namespace Go.Proofs.YtnfjmngchapdnaaGreatDoor
open Go.RowKit

theorem bytesOf_inj {s t : ByteArray} (h : bytesOf s = bytesOf t) : s = t := by
  unfold bytesOf at h
  have h2 : s.data.toList = t.data.toList := by
    refine (List.map_inj_right (f := UInt8.toNat) fun x y hxy => UInt8.toNat_inj.1 hxy).1 h
  have h3 : s.data = t.data := Array.toList_inj.1 h2
  cases s; cases t
  simp at h3
  rw [h3]
theorem fits_width {x N : Nat} (h : x < N) : x < 256 ^ ((blen N + 7) / 8) := by
  have h1 := lt_blen N
  have h2 : (2 : Nat) ^ blen N ≤ 2 ^ (8 * ((blen N + 7) / 8)) := Nat.pow_le_pow_right (by omega) (by omega)
  rw [Nat.pow_mul] at h2
  exact Nat.lt_of_lt_of_le h (Nat.le_of_lt (Nat.lt_of_lt_of_le h1 h2))
theorem bytesOf_drop (s : ByteArray) (k : Nat) : bytesOf (s.extract k s.size) = (bytesOf s).drop k := by
  unfold bytesOf
  simp [ByteArray.data_extract]
  refine List.take_of_length_le ?_
  rw [List.length_drop, List.length_map, Array.length_toList]
  exact Nat.le_refl _
theorem num_ofS (s : ByteArray) (w : World) (hm : s.size ≤ 250) :
    Calls Tryz.prog 16 #[.string s] w fun e w2 => RetN e w2 63 (bval (bytesOf s)) ∧ Keeps [] w w2 := by
  refine (lOf_any s w (by omega)).mono ?_
  rintro e w2 ⟨⟨a', n', c', M, rfl, h3, h4, h5, h6⟩, hk⟩
  exact ⟨⟨a', n', c', rfl, M, h3, h5, h4, by omega⟩, hk⟩
theorem says_t {e : Ending} {p : Prop} (h : Says e p) (hp : p) : e = .returned (.bool true) := by
  obtain ⟨b, rfl, hb⟩ := h
  rw [hb.2 hp]
theorem says_f {e : Ending} {p : Prop} (h : Says e p) (hp : ¬ p) : e = .returned (.bool false) := by
  obtain ⟨b, rfl, hb⟩ := h
  cases b
  · rfl
  · exact absurd (hb.1 rfl) hp

theorem lBytes_num {k many v : Nat} {ax : Option Addr} {nx cx : Nat} {w : World} (h : Num k w ax nx cx v) (hk : k ≤ 400) (hmany : many ≤ 1000) (hv : v < 256 ^ many) :
    Calls Tryz.prog 20 #[.slice ax nx cx, .int .i64 (many : Int)] w fun e w' => RetText e many v ∧ Keeps [] w w' := by
  obtain ⟨X, h1, _, rfl, h2⟩ := h
  exact lBytes_any ax nx cx many X w h1 (by omega) hmany hv
/-- What BOpened tells of so many bytes as the modulus has. -/
def OpR (e : Ending) (ok : Prop) (N S v r : Nat) : Prop :=
  (ok ∧ 1024 ≤ blen N ∧ v < N ∧ ∃ O, Blk S r O ∧ ∃ (t : ByteArray) (p : Bool), e = .returned (.tuple #[.string t, .bool p, .bool true]) ∧ (p = true → OpensTo O (bytesOf t)) ∧ (p = false → Shut O)) ∨
  ((¬ ok ∨ blen N < 1024 ∨ ¬ v < N) ∧ e = .returned (.tuple #[.string ⟨#[]⟩, .bool false, .bool false]))

set_option maxRecDepth 1000000 in
set_option maxHeartbeats 8000000 in
theorem bOpened_any (k : KA) (way : Int) (ss : ByteArray) (mb : Nat) (w : World) (hk : k.is w) (ht : k.tidy) (ok said : Prop) (D : Nat)
    (htold : Told (.agg #[.slice k.a1 k.m1 k.c1, .int .i64 k.E, .slice k.a2 k.m2 k.c2, .slice k.a3 k.m3 k.c3, .slice k.a4 k.m4 k.c4, .slice k.a5 k.m5 k.c5, .slice k.a6 k.m6 k.c6, .slice k.a7 k.m7 k.c7]) way w ok said (bval k.L1) D)
    (hsaid : said) (hss : ss.size = mb) (hmb : mb = (blen (bval k.L1) + 7) / 8) (hmb2 : mb ≤ 240) (hgt : ok → 1 < bval k.L1) :
    Calls Tryz.prog 8 #[.agg #[.slice k.a1 k.m1 k.c1, .int .i64 k.E, .slice k.a2 k.m2 k.c2, .slice k.a3 k.m3 k.c3, .slice k.a4 k.m4 k.c4, .slice k.a5 k.m5 k.c5, .slice k.a6 k.m6 k.c6, .slice k.a7 k.m7 k.c7], .int .i64 way, .string ss] w fun e w' =>
      OpR e ok (bval k.L1) mb (bval (bytesOf ss)) (bval (bytesOf ss) ^ D % bval k.L1) ∧ Keeps [] w w' := by
  have hb0 := alloc_blk w (.cells #[.slice k.a1 k.m1 k.c1, .int .i64 k.E, .slice k.a2 k.m2 k.c2, .slice k.a3 k.m3 k.c3, .slice k.a4 k.m4 k.c4, .slice k.a5 k.m5 k.c5, .slice k.a6 k.m6 k.c6, .slice k.a7 k.m7 k.c7] 24)
  have hk0 : Keeps [] w (w.alloc (.cells #[.slice k.a1 k.m1 k.c1, .int .i64 k.E, .slice k.a2 k.m2 k.c2, .slice k.a3 k.m3 k.c3, .slice k.a4 k.m4 k.c4, .slice k.a5 k.m5 k.c5, .slice k.a6 k.m6 k.c6, .slice k.a7 k.m7 k.c7] 24)) := (Keeps.refl _ _).alloc _
  obtain ⟨wa, hwa⟩ : ∃ wa, wa = w.alloc (.cells #[.slice k.a1 k.m1 k.c1, .int .i64 k.E, .slice k.a2 k.m2 k.c2, .slice k.a3 k.m3 k.c3, .slice k.a4 k.m4 k.c4, .slice k.a5 k.m5 k.c5, .slice k.a6 k.m6 k.c6, .slice k.a7 k.m7 k.c7] 24) := ⟨_, rfl⟩
  rw [← hwa] at hb0 hk0
  have HKB := Lib.hid hb0; have HK := Lib.hid hk0; have HI := Lib.hid (hk.kept hk0); have HTO := Lib.hid (htold wa hk0)
  have HMB := Lib.hid hmb; have HSS := Lib.hid hss; have HSAID := Lib.hid hsaid; have HGT := Lib.hid hgt
  obtain ⟨k0, k1, k2, k3, k4, k5, k6, k7⟩ := key8 hb0
  have r1 : k.m1 ≤ 240 := by rw [← hk.s1.1]; exact ht.t1.1
  obtain ⟨V, hV⟩ : ∃ V, V = bval (bytesOf ss) := ⟨_, rfl⟩
  rw [← hV]
  obtain ⟨N, hN⟩ : ∃ N, N = bval k.L1 := ⟨_, rfl⟩
  rw [← hN] at HTO HMB HGT ⊢
  obtain ⟨r, hr⟩ : ∃ r, r = V ^ D % N := ⟨_, rfl⟩
  rw [← hr]
  have HV := Lib.hid hV; have HN := Lib.hid hN; have HR := Lib.hid hr
  clear hb0 hk0 hk htold hmb hss hsaid hgt hV hN hr ht
  go_enter Tryz.func8, Tryz.ntmps8
  go_wp2_with fail
  rw [← hwa]
  clear hwa
  refine HTO.out.mono ?_
  rintro e we ⟨⟨a0, a1, a2, a3, a4, a5, a6, n0, c0, n1, c1, n2, c2, n3, c3, n4, c4, n5, c5, n6, c6, bi, bs, rfl, hbs, hbi, hnum⟩, hs⟩
  clear k0 k1 k2 k3 k4 k5 k6 k7 HTO
  replace HKB := Lib.hid (blk_keeps HKB.out hs (by simp)); replace HK := Lib.hid (HK.out.trans1 hs); replace HI := Lib.hid (HI.out.kept hs)
  have HBI := Lib.hid hbi; have HNUM := Lib.hid hnum
  obtain rfl : bs = true := hbs.2 HSAID.out
  clear hs hbs hbi hnum
  have hx0 := alloc_blk we (.cells #[.slice a0 n0 c0, .slice a1 n1 c1, .slice a2 n2 c2, .slice a3 n3 c3, .slice a4 n4 c4, .slice a5 n5 c5, .slice a6 n6 c6] 41)
  have hk1 : Keeps [] we (we.alloc (.cells #[.slice a0 n0 c0, .slice a1 n1 c1, .slice a2 n2 c2, .slice a3 n3 c3, .slice a4 n4 c4, .slice a5 n5 c5, .slice a6 n6 c6] 41)) := (Keeps.refl _ _).alloc _
  obtain ⟨wX, hwX⟩ : ∃ wX, wX = (we.alloc (.cells #[.slice a0 n0 c0, .slice a1 n1 c1, .slice a2 n2 c2, .slice a3 n3 c3, .slice a4 n4 c4, .slice a5 n5 c5, .slice a6 n6 c6] 41)) := ⟨_, rfl⟩
  rw [← hwX] at hx0 hk1
  have HX := Lib.hid hx0; have HWX := Lib.hid hwX
  have HNX : Hid (ok → Num 63 wX a0 n0 c0 N ∧ Num 63 wX a1 n1 c1 D) := Lib.hid fun h => ⟨(HNUM.out h).1.kept hk1, (HNUM.out h).2.kept hk1⟩
  replace HKB := Lib.hid (blk_keeps HKB.out hk1 (by simp)); replace HI := Lib.hid (HI.out.kept hk1); replace HK := Lib.hid (HK.out.trans1 hk1)
  clear hx0 hk1 hwX HNUM
  obtain ⟨xb, hxb⟩ : ∃ xb, xb = we.heap.size := ⟨_, rfl⟩
  rw [← hxb] at HX
  go_upto_region 2 with fail
  rw [← HWX.out, ← hxb]
  clear hxb HWX
  have mkS : ∀ w', Keeps [] wX w' → (w'.cell? ⟨w.heap.size, 0, none⟩ = some (.slice k.a1 k.m1 k.c1) ∧ w'.cell? ⟨w.heap.size, 1, none⟩ = some (.int .i64 k.E) ∧ w'.cell? ⟨w.heap.size, 2, none⟩ = some (.slice k.a2 k.m2 k.c2) ∧ w'.cell? ⟨w.heap.size, 3, none⟩ = some (.slice k.a3 k.m3 k.c3) ∧ w'.cell? ⟨w.heap.size, 4, none⟩ = some (.slice k.a4 k.m4 k.c4) ∧ w'.cell? ⟨w.heap.size, 5, none⟩ = some (.slice k.a5 k.m5 k.c5) ∧ w'.cell? ⟨w.heap.size, 6, none⟩ = some (.slice k.a6 k.m6 k.c6) ∧ w'.cell? ⟨w.heap.size, 7, none⟩ = some (.slice k.a7 k.m7 k.c7)) ∧ w'.cell? ⟨xb, 0, none⟩ = some (.slice a0 n0 c0) ∧ w'.cell? ⟨xb, 1, none⟩ = some (.slice a1 n1 c1) := fun w' hk =>
    ⟨key8 (blk_keeps HKB.out hk (by simp)), (key7 (blk_keeps HX.out hk (by simp))).1, (key7 (blk_keeps HX.out hk (by simp))).2.1⟩
  have MKS := Lib.hid mkS
  clear mkS
  cases bi
  · have HNO : Hid (¬ ok) := Lib.hid fun h => by have := HBI.out.2 h; simp at this
    go_wp2_with fail
    refine wp_region_txt [0,0,0,0,0,0,0,0,0,0,0,0,0,0,0,0,0,0,0,0,0,0,0,0,0,0] (fun _ => True) (by kernel_rfl) (by kernel_rfl) trivial ?_
    simp only [withMarks]
    repeat (first
      | ((with_reducible refine txt_v (v := ?_) ?_ ?_); (any_goals ((with_reducible refine Yl.mk ?_ ?_); rfl; intro w hSw; (go_simp <;> (try go_bits) <;> (repeat (first | rw [if_pos (by omega)] | rw [if_neg (by omega)])) <;> with_reducible rfl))); try simp only [Act.put, List.setIfInBounds_toArray, List.set_cons_zero, List.set_cons_succ])
      | ((with_reducible refine txt_u ?_ ?_); rfl; try simp only [Act.put, List.setIfInBounds_toArray, List.set_cons_zero, List.set_cons_succ])
      | ((with_reducible refine txt_l (v := ?_) ?_ ?_); (any_goals ((with_reducible refine Reads.mk ?_ ?_); rfl; (go_simp <;> (try go_bits) <;> (repeat (first | rw [if_pos (by omega)] | rw [if_neg (by omega)])) <;> with_reducible rfl))); try simp only [Act.put, List.setIfInBounds_toArray, List.set_cons_zero, List.set_cons_succ])
      | ((with_reducible refine txt_e ?_ ?_); rfl; intro K hK; go_simp; (first | (refine hK _ _ trivial ?_) | ((first | fail); dsimp only; refine hK _ _ trivial ?_)); clear hK K; try simp only [Act.put, List.setIfInBounds_toArray, List.set_cons_zero, List.set_cons_succ]))
    refine txt_nil ?_
    go_wp2
    exact bodyPost_ret (v := .tuple #[.string ⟨#[]⟩, .bool false, .bool false]) (by simp [results, Tryz.results8, go_sem]) rfl ⟨.inr ⟨.inl HNO.out, rfl⟩, HK.out.drew⟩
  have HOK : Hid ok := Lib.hid (HBI.out.1 rfl)
  have HNM := Lib.hid (HNX.out HOK.out)
  clear HNX HBI
  have hS0 := MKS.out wX.drew (Keeps.refl [] wX).drew
  by_cases hgr : 1024 ≤ blen N
  rotate_left
  · have HGR := Lib.hid hgr
    clear hgr
    go_wp2_with fail
    refine wp_region_txt [0,0,0,0,0,0,0,0,2,0,0,0,0,0,0,0,0,0,0,0,0,0,0,0,0,0] (fun w' => (w'.cell? ⟨w.heap.size, 0, none⟩ = some (.slice k.a1 k.m1 k.c1) ∧ w'.cell? ⟨w.heap.size, 1, none⟩ = some (.int .i64 k.E) ∧ w'.cell? ⟨w.heap.size, 2, none⟩ = some (.slice k.a2 k.m2 k.c2) ∧ w'.cell? ⟨w.heap.size, 3, none⟩ = some (.slice k.a3 k.m3 k.c3) ∧ w'.cell? ⟨w.heap.size, 4, none⟩ = some (.slice k.a4 k.m4 k.c4) ∧ w'.cell? ⟨w.heap.size, 5, none⟩ = some (.slice k.a5 k.m5 k.c5) ∧ w'.cell? ⟨w.heap.size, 6, none⟩ = some (.slice k.a6 k.m6 k.c6) ∧ w'.cell? ⟨w.heap.size, 7, none⟩ = some (.slice k.a7 k.m7 k.c7)) ∧ w'.cell? ⟨xb, 0, none⟩ = some (.slice a0 n0 c0) ∧ w'.cell? ⟨xb, 1, none⟩ = some (.slice a1 n1 c1)) (by kernel_rfl) (by kernel_rfl) hS0 ?_
    simp only [withMarks]
    repeat (first
      | ((with_reducible refine txt_v (v := ?_) ?_ ?_); (any_goals ((with_reducible refine Yl.mk ?_ ?_); rfl; intro w hSw; (go_simp <;> (try go_bits) <;> (repeat (first | rw [if_pos (by omega)] | rw [if_neg (by omega)])) <;> with_reducible rfl))); try simp only [Act.put, List.setIfInBounds_toArray, List.set_cons_zero, List.set_cons_succ])
      | ((with_reducible refine txt_u ?_ ?_); rfl; try simp only [Act.put, List.setIfInBounds_toArray, List.set_cons_zero, List.set_cons_succ])
      | ((with_reducible refine txt_l (v := ?_) ?_ ?_); (any_goals ((with_reducible refine Reads.mk ?_ ?_); rfl; (go_simp <;> (try go_bits) <;> (repeat (first | rw [if_pos (by omega)] | rw [if_neg (by omega)])) <;> with_reducible rfl))); try simp only [Act.put, List.setIfInBounds_toArray, List.set_cons_zero, List.set_cons_succ])
      | ((with_reducible refine txt_e ?_ ?_); rfl; intro K hK; go_simp; (first | (refine hK _ _ (by first | exact MKS.out _ g4 | exact MKS.out _ g3 | exact MKS.out _ g2 | exact MKS.out _ g1 | exact MKS.out _ (Keeps.refl [] wX).drew) ?_) | ((first | (go_at_call 18; (with_reducible refine Calls.mono (bGreat_any k.a1 k.m1 k.c1 k.L1 k.E k.a2 k.a3 k.a4 k.a5 k.a6 k.a7 k.m2 k.c2 k.m3 k.c3 k.m4 k.c4 k.m5 k.c5 k.m6 k.c6 k.m7 k.c7 _ (HI.out.s1.kept (Keeps.refl [] wX).drew) (by omega)) ?_); rintro e1 w1 ⟨hsy, g1'⟩; obtain rfl := says_f hsy (by rw [← HN.out]; exact HGR.out); have g1 := (Keeps.refl [] wX).drew.trans1 g1')); dsimp only; refine hK _ _ (by first | exact MKS.out _ g4 | exact MKS.out _ g3 | exact MKS.out _ g2 | exact MKS.out _ g1 | exact MKS.out _ (Keeps.refl [] wX).drew) ?_)); clear hK K; try simp only [Act.put, List.setIfInBounds_toArray, List.set_cons_zero, List.set_cons_succ]))
    refine txt_nil ?_
    have HKF := Lib.hid (HK.out.trans1 g1)
    clear g1 g1' hS0
    go_wp2
    exact bodyPost_ret (v := .tuple #[.string ⟨#[]⟩, .bool false, .bool false]) (by simp [results, Tryz.results8, go_sem]) rfl ⟨.inr ⟨.inr (.inl (by have := HGR.out; omega)), rfl⟩, HKF.out⟩
  have HGR := Lib.hid hgr
  clear hgr
  have hss := HSS.out
  by_cases hvn : V < N
  rotate_left
  · have HVN := Lib.hid hvn
    clear hvn
    go_wp2_with fail
    refine wp_region_txt [0,0,0,0,0,0,0,0,2,0,0,0,0,0,0,2,0,0,0,0,2,0,0,2,0,0] (fun w' => (w'.cell? ⟨w.heap.size, 0, none⟩ = some (.slice k.a1 k.m1 k.c1) ∧ w'.cell? ⟨w.heap.size, 1, none⟩ = some (.int .i64 k.E) ∧ w'.cell? ⟨w.heap.size, 2, none⟩ = some (.slice k.a2 k.m2 k.c2) ∧ w'.cell? ⟨w.heap.size, 3, none⟩ = some (.slice k.a3 k.m3 k.c3) ∧ w'.cell? ⟨w.heap.size, 4, none⟩ = some (.slice k.a4 k.m4 k.c4) ∧ w'.cell? ⟨w.heap.size, 5, none⟩ = some (.slice k.a5 k.m5 k.c5) ∧ w'.cell? ⟨w.heap.size, 6, none⟩ = some (.slice k.a6 k.m6 k.c6) ∧ w'.cell? ⟨w.heap.size, 7, none⟩ = some (.slice k.a7 k.m7 k.c7)) ∧ w'.cell? ⟨xb, 0, none⟩ = some (.slice a0 n0 c0) ∧ w'.cell? ⟨xb, 1, none⟩ = some (.slice a1 n1 c1)) (by kernel_rfl) (by kernel_rfl) hS0 ?_
    simp only [withMarks]
    repeat (first
      | ((with_reducible refine txt_v (v := ?_) ?_ ?_); (any_goals ((with_reducible refine Yl.mk ?_ ?_); rfl; intro w hSw; (go_simp <;> (try go_bits) <;> (repeat (first | rw [if_pos (by omega)] | rw [if_neg (by omega)])) <;> with_reducible rfl))); try simp only [Act.put, List.setIfInBounds_toArray, List.set_cons_zero, List.set_cons_succ])
      | ((with_reducible refine txt_u ?_ ?_); rfl; try simp only [Act.put, List.setIfInBounds_toArray, List.set_cons_zero, List.set_cons_succ])
      | ((with_reducible refine txt_l (v := ?_) ?_ ?_); (any_goals ((with_reducible refine Reads.mk ?_ ?_); rfl; (go_simp <;> (try go_bits) <;> (repeat (first | rw [if_pos (by omega)] | rw [if_neg (by omega)])) <;> with_reducible rfl))); try simp only [Act.put, List.setIfInBounds_toArray, List.set_cons_zero, List.set_cons_succ])
      | ((with_reducible refine txt_e ?_ ?_); rfl; intro K hK; go_simp; (first | (refine hK _ _ (by first | exact MKS.out _ g4 | exact MKS.out _ g3 | exact MKS.out _ g2 | exact MKS.out _ g1 | exact MKS.out _ (Keeps.refl [] wX).drew) ?_) | ((first | (go_at_call 19; (with_reducible refine Calls.mono (num_nlt hVn (HNM.out.1.kept g3) (by omega) (by omega) HVN.out) ?_); rintro e4 w4 ⟨⟨o, rfl, fo, fo2⟩, g4'⟩; have g4 := g3.trans1 g4') | (go_at_call 16; (with_reducible refine Calls.mono (num_ofS ss _ (by have := HSS.out; omega)) ?_); rintro e3 w3 ⟨⟨av, nv, cv, rfl, hVn⟩, g3'⟩; rw [← HV.out] at hVn; have g3 := g2.trans1 g3') | (go_at_call 6; (with_reducible refine Calls.mono (bWidth_any k.a1 k.m1 k.c1 k.L1 k.E k.a2 k.a3 k.a4 k.a5 k.a6 k.a7 k.m2 k.c2 k.m3 k.c3 k.m4 k.c4 k.m5 k.c5 k.m6 k.c6 k.m7 k.c7 _ (HI.out.s1.kept g1) (by omega)) ?_); rintro e2 w2 ⟨rfl, g2'⟩; rw [← HN.out, ← HMB.out]; have g2 := g1.trans1 g2') | (go_at_call 18; (with_reducible refine Calls.mono (bGreat_any k.a1 k.m1 k.c1 k.L1 k.E k.a2 k.a3 k.a4 k.a5 k.a6 k.a7 k.m2 k.c2 k.m3 k.c3 k.m4 k.c4 k.m5 k.c5 k.m6 k.c6 k.m7 k.c7 _ (HI.out.s1.kept (Keeps.refl [] wX).drew) (by omega)) ?_); rintro e1 w1 ⟨hsy, g1'⟩; obtain rfl := says_t hsy (by rw [← HN.out]; exact HGR.out); have g1 := (Keeps.refl [] wX).drew.trans1 g1')); dsimp only; refine hK _ _ (by first | exact MKS.out _ g4 | exact MKS.out _ g3 | exact MKS.out _ g2 | exact MKS.out _ g1 | exact MKS.out _ (Keeps.refl [] wX).drew) ?_)); clear hK K; try simp only [Act.put, List.setIfInBounds_toArray, List.set_cons_zero, List.set_cons_succ]))
    refine txt_nil ?_
    have HKF := Lib.hid (HK.out.trans1 g4)
    clear g1 g1' g2 g2' g3 g3' g4 g4' hS0 hVn
    go_wp2
    exact bodyPost_ret (v := .tuple #[.string ⟨#[]⟩, .bool false, .bool false]) (by simp [results, Tryz.results8, go_sem]) rfl ⟨.inr ⟨.inr (.inr HVN.out), rfl⟩, HKF.out⟩
  have HVN := Lib.hid hvn
  have hge : decide ((0 : Int) ≤ -1) = false := by decide
  clear hvn
  go_wp2_with fail
  refine wp_region_txt [0,0,0,0,0,0,0,0,2,0,0,0,0,0,0,2,0,0,0,0,2,0,0,2,0,0] (fun w' => (w'.cell? ⟨w.heap.size, 0, none⟩ = some (.slice k.a1 k.m1 k.c1) ∧ w'.cell? ⟨w.heap.size, 1, none⟩ = some (.int .i64 k.E) ∧ w'.cell? ⟨w.heap.size, 2, none⟩ = some (.slice k.a2 k.m2 k.c2) ∧ w'.cell? ⟨w.heap.size, 3, none⟩ = some (.slice k.a3 k.m3 k.c3) ∧ w'.cell? ⟨w.heap.size, 4, none⟩ = some (.slice k.a4 k.m4 k.c4) ∧ w'.cell? ⟨w.heap.size, 5, none⟩ = some (.slice k.a5 k.m5 k.c5) ∧ w'.cell? ⟨w.heap.size, 6, none⟩ = some (.slice k.a6 k.m6 k.c6) ∧ w'.cell? ⟨w.heap.size, 7, none⟩ = some (.slice k.a7 k.m7 k.c7)) ∧ w'.cell? ⟨xb, 0, none⟩ = some (.slice a0 n0 c0) ∧ w'.cell? ⟨xb, 1, none⟩ = some (.slice a1 n1 c1)) (by kernel_rfl) (by kernel_rfl) hS0 ?_
  simp only [withMarks]
  repeat (first
    | ((with_reducible refine txt_v (v := ?_) ?_ ?_); (any_goals ((with_reducible refine Yl.mk ?_ ?_); rfl; intro w hSw; (go_simp <;> (try go_bits) <;> (repeat (first | rw [if_pos (by omega)] | rw [if_neg (by omega)])) <;> with_reducible rfl))); try simp only [Act.put, List.setIfInBounds_toArray, List.set_cons_zero, List.set_cons_succ])
    | ((with_reducible refine txt_u ?_ ?_); rfl; try simp only [Act.put, List.setIfInBounds_toArray, List.set_cons_zero, List.set_cons_succ])
    | ((with_reducible refine txt_l (v := ?_) ?_ ?_); (any_goals ((with_reducible refine Reads.mk ?_ ?_); rfl; (go_simp <;> (try go_bits) <;> (repeat (first | rw [if_pos (by omega)] | rw [if_neg (by omega)])) <;> with_reducible rfl))); try simp only [Act.put, List.setIfInBounds_toArray, List.set_cons_zero, List.set_cons_succ])
    | ((with_reducible refine txt_e ?_ ?_); rfl; intro K hK; go_simp; (first | (refine hK _ _ (by first | exact MKS.out _ g4 | exact MKS.out _ g3 | exact MKS.out _ g2 | exact MKS.out _ g1 | exact MKS.out _ (Keeps.refl [] wX).drew) ?_) | ((first | (go_at_call 19; (with_reducible refine Calls.mono (num_lt hVn (HNM.out.1.kept g3) (by omega) (by omega) HVN.out) ?_); rintro e4 w4 ⟨rfl, g4'⟩; have g4 := g3.trans1 g4') | (go_at_call 16; (with_reducible refine Calls.mono (num_ofS ss _ (by have := HSS.out; omega)) ?_); rintro e3 w3 ⟨⟨av, nv, cv, rfl, hVn⟩, g3'⟩; rw [← HV.out] at hVn; have g3 := g2.trans1 g3') | (go_at_call 6; (with_reducible refine Calls.mono (bWidth_any k.a1 k.m1 k.c1 k.L1 k.E k.a2 k.a3 k.a4 k.a5 k.a6 k.a7 k.m2 k.c2 k.m3 k.c3 k.m4 k.c4 k.m5 k.c5 k.m6 k.c6 k.m7 k.c7 _ (HI.out.s1.kept g1) (by omega)) ?_); rintro e2 w2 ⟨rfl, g2'⟩; rw [← HN.out, ← HMB.out]; have g2 := g1.trans1 g2') | (go_at_call 18; (with_reducible refine Calls.mono (bGreat_any k.a1 k.m1 k.c1 k.L1 k.E k.a2 k.a3 k.a4 k.a5 k.a6 k.a7 k.m2 k.c2 k.m3 k.c3 k.m4 k.c4 k.m5 k.c5 k.m6 k.c6 k.m7 k.c7 _ (HI.out.s1.kept (Keeps.refl [] wX).drew) (by omega)) ?_); rintro e1 w1 ⟨hsy, g1'⟩; obtain rfl := says_t hsy (by rw [← HN.out]; exact HGR.out); have g1 := (Keeps.refl [] wX).drew.trans1 g1')); dsimp only; refine hK _ _ (by first | exact MKS.out _ g4 | exact MKS.out _ g3 | exact MKS.out _ g2 | exact MKS.out _ g1 | exact MKS.out _ (Keeps.refl [] wX).drew) ?_)); clear hK K; try simp only [Act.put, List.setIfInBounds_toArray, List.set_cons_zero, List.set_cons_succ]))
  refine txt_nil ?_
  have G := Lib.hid g4
  clear g1 g1' g2 g2' g3 g3' g4 g4' hS0 hVn hss hge
  have hS0 := MKS.out w4.drew G.out.drew
  have hN1 : 1 < N := HGT.out HOK.out
  go_wp2_with fail
  refine wp_region_txt [0,2,0,0,0,0,2,0,2,2,0,0,0,0,0] (fun w' => (w'.cell? ⟨w.heap.size, 0, none⟩ = some (.slice k.a1 k.m1 k.c1) ∧ w'.cell? ⟨w.heap.size, 1, none⟩ = some (.int .i64 k.E) ∧ w'.cell? ⟨w.heap.size, 2, none⟩ = some (.slice k.a2 k.m2 k.c2) ∧ w'.cell? ⟨w.heap.size, 3, none⟩ = some (.slice k.a3 k.m3 k.c3) ∧ w'.cell? ⟨w.heap.size, 4, none⟩ = some (.slice k.a4 k.m4 k.c4) ∧ w'.cell? ⟨w.heap.size, 5, none⟩ = some (.slice k.a5 k.m5 k.c5) ∧ w'.cell? ⟨w.heap.size, 6, none⟩ = some (.slice k.a6 k.m6 k.c6) ∧ w'.cell? ⟨w.heap.size, 7, none⟩ = some (.slice k.a7 k.m7 k.c7)) ∧ w'.cell? ⟨xb, 0, none⟩ = some (.slice a0 n0 c0) ∧ w'.cell? ⟨xb, 1, none⟩ = some (.slice a1 n1 c1)) (by kernel_rfl) (by kernel_rfl) hS0 ?_
  simp only [withMarks]
  repeat (first
    | ((with_reducible refine txt_v (v := ?_) ?_ ?_); (any_goals ((with_reducible refine Yl.mk ?_ ?_); rfl; intro w hSw; (go_simp <;> (try go_bits) <;> (repeat (first | rw [if_pos (by omega)] | rw [if_neg (by omega)])) <;> with_reducible rfl))); try simp only [Act.put, List.setIfInBounds_toArray, List.set_cons_zero, List.set_cons_succ])
    | ((with_reducible refine txt_u ?_ ?_); rfl; try simp only [Act.put, List.setIfInBounds_toArray, List.set_cons_zero, List.set_cons_succ])
    | ((with_reducible refine txt_l (v := ?_) ?_ ?_); (any_goals ((with_reducible refine Reads.mk ?_ ?_); rfl; (go_simp <;> (try go_bits) <;> (repeat (first | rw [if_pos (by omega)] | rw [if_neg (by omega)])) <;> with_reducible rfl))); try simp only [Act.put, List.setIfInBounds_toArray, List.set_cons_zero, List.set_cons_succ])
    | ((with_reducible refine txt_e ?_ ?_); rfl; intro K hK; go_simp; (first | (refine hK _ _ (by first | exact MKS.out _ (G.out.trans1 g8) | exact MKS.out _ (G.out.trans1 g7) | exact MKS.out _ (G.out.trans1 g6) | exact MKS.out _ (G.out.trans1 g5) | exact MKS.out _ G.out.drew) ?_) | ((first | (go_at_call 20; (with_reducible refine Calls.mono (lBytes_num (hPw.kept g7') (by omega) (by omega) hfw) ?_); rintro e8 w8 ⟨⟨s2, rfl, q1, q2⟩, g8'⟩; have g8 := g7.trans1 g8') | (go_at_call 6; (with_reducible refine Calls.mono (bWidth_any k.a1 k.m1 k.c1 k.L1 k.E k.a2 k.a3 k.a4 k.a5 k.a6 k.a7 k.m2 k.c2 k.m3 k.c3 k.m4 k.c4 k.m5 k.c5 k.m6 k.c6 k.m7 k.c7 _ (HI.out.s1.kept (G.out.trans1 g6)) (by omega)) ?_); rintro e7 w7 ⟨rfl, g7'⟩; rw [← HN.out, ← HMB.out]; have g7 := g6.trans1 g7') | (go_at_call 21; (with_reducible refine Calls.mono (num_power hVn (HNM.out.2.kept (G.out.trans1 g5)) (HNM.out.1.kept (G.out.trans1 g5)) (by omega) (by omega) (by omega) hN1) ?_); rintro e6 w6 ⟨⟨ap, np, cp, rfl, hPw⟩, g6'⟩; rw [← HR.out] at hPw; have g6 := g5.trans1 g6'; have hfw : r < 256 ^ mb := by (rw [HMB.out]; exact fits_width (by rw [HR.out]; exact Nat.mod_lt _ (by omega)))) | (go_at_call 16; (with_reducible refine Calls.mono (num_ofS ss _ (by have := HSS.out; omega)) ?_); rintro e5 w5 ⟨⟨av, nv, cv, rfl, hVn⟩, g5'⟩; rw [← HV.out] at hVn; have g5 := (Keeps.refl [] w4).drew.trans1 g5')); dsimp only; refine hK _ _ (by first | exact MKS.out _ (G.out.trans1 g8) | exact MKS.out _ (G.out.trans1 g7) | exact MKS.out _ (G.out.trans1 g6) | exact MKS.out _ (G.out.trans1 g5) | exact MKS.out _ G.out.drew) ?_)); clear hK K; try simp only [Act.put, List.setIfInBounds_toArray, List.set_cons_zero, List.set_cons_succ]))
  refine txt_nil ?_
  have HKF := Lib.hid (HK.out.trans1 (G.out.trans1 g8))
  have HB : Hid (Blk mb r (bytesOf s2)) := Lib.hid ⟨q1, bytesOf_lt s2, q2⟩
  clear g5 g5' g6 g6' g7 g7' g8 g8' hPw hVn hfw hS0 q1 q2
  have hsz : Hid (s2.size = mb) := Lib.hid (by rw [← bytesOf_len]; exact HB.out.1)
  have hmbn : 128 ≤ mb := by have := HMB.out; have := HGR.out; omega
  have i0 : 0 < s2.size := by rw [hsz.out]; omega
  have i1 : 1 < s2.size := by rw [hsz.out]; omega
  have hg0 : Hid ((bytesOf s2)[0]? = some (s2[0]'i0).toNat) := Lib.hid (by rw [List.getElem?_eq_getElem (by rw [bytesOf_len]; exact i0), ← bytesOf_get])
  have hg1 : Hid ((bytesOf s2)[1]? = some (s2[1]'i1).toNat) := Lib.hid (by rw [List.getElem?_eq_getElem (by rw [bytesOf_len]; exact i1), ← bytesOf_get])
  have j0 : (0 : Int) < (s2.size : Int) := by omega
  have j1 : (1 : Int) < (s2.size : Int) := by omega
  by_cases h0 : (s2[0]'i0).toNat = 0
  rotate_left
  · have HS : Hid (Shut (bytesOf s2)) := Lib.hid (shut_0 hg0.out h0)
    go_wp2
    exact bodyPost_ret (v := .tuple #[.string ⟨#[]⟩, .bool false, .bool true]) (by simp [results, Tryz.results8, go_sem]) rfl ⟨.inl ⟨HOK.out, HGR.out, HVN.out, _, HB.out, _, false, rfl, fun h => by simp at h, fun _ => HS.out⟩, HKF.out⟩
  by_cases h1 : (s2[1]'i1).toNat = 2
  rotate_left
  · have HS : Hid (Shut (bytesOf s2)) := Lib.hid (shut_1 hg1.out h1)
    have e1 : ((((s2[1]'i1).toNat : Nat) : Int) != 2) = true := by simp; omega
    clear h1
    go_wp2
    exact bodyPost_ret (v := .tuple #[.string ⟨#[]⟩, .bool false, .bool true]) (by simp [results, Tryz.results8, go_sem]) rfl ⟨.inl ⟨HOK.out, HGR.out, HVN.out, _, HB.out, _, false, rfl, fun h => by simp at h, fun _ => HS.out⟩, HKF.out⟩
  have H01 : Hid ((bytesOf s2)[0]? = some 0 ∧ (bytesOf s2)[1]? = some 2) := Lib.hid ⟨by rw [hg0.out, h0], by rw [hg1.out, h1]⟩
  have e1 : ((((s2[1]'i1).toNat : Nat) : Int) != 2) = false := by rw [h1]; rfl
  clear h1 hg0 hg1
  go_wp2
  clear h0 e1
  go_loopw [14] (fun iv wr => ∃ i : Nat, iv = .int .i64 (i : Int) ∧ 2 ≤ i ∧ i ≤ mb ∧ Hid (NoZ (bytesOf s2) i) ∧ Hid (Keeps [] w wr)) (fun iv _ => mb - (intOf iv).toNat)
  case atStart => exact ⟨2, by go_num, by omega, by omega, Lib.hid (NoZ.two _), HKF⟩
  case round =>
    obtain ⟨i, rfl, h2i, him, HNZ, HKR⟩ := hrel
    clear HKF
    by_cases hlt : i < mb
    · have hi : i < s2.size := by rw [hsz.out]; exact hlt
      have m1 : (i : Int) < (s2.size : Int) := by omega
      have m2 : (0 : Int) ≤ (i : Int) := by omega
      have HX : Hid ((bytesOf s2)[i]? = some (s2[i]'hi).toNat) := Lib.hid (by rw [List.getElem?_eq_getElem (by rw [bytesOf_len]; exact hi), ← bytesOf_get])
      by_cases hx : (s2[i]'hi).toNat = 0
      · have HZ : Hid (IsZ (bytesOf s2) i) := Lib.hid (HNZ.out.found h2i (by rw [HX.out, hx]))
        have m3 : (i : Int) + 1 ≤ (s2.size : Int) := by omega
        have m4 : ((i : Int) + 1).toNat = i + 1 := by omega
        have hop : (decide ((10 : Int) ≤ (i : Int)) = true → OpensTo (bytesOf s2) (bytesOf (s2.extract (i + 1) s2.size))) ∧ (decide ((10 : Int) ≤ (i : Int)) = false → Shut (bytesOf s2)) :=
          ⟨fun h => ⟨H01.out.1, H01.out.2, i, HZ.out, by have := of_decide_eq_true h; omega, bytesOf_drop s2 (i + 1)⟩, fun h => shut_z HZ.out (by have := of_decide_eq_false h; omega)⟩
        have HOP := Lib.hid hop
        clear hop
        go_wp2_with fail
        exact bodyPost_ret (v := .tuple #[.string (s2.extract (i + 1) s2.size), .bool (decide ((10 : Int) ≤ (i : Int))), .bool true]) (by simp [results, Tryz.results8, go_sem]) rfl ⟨.inl ⟨HOK.out, HGR.out, HVN.out, _, HB.out, _, _, rfl, HOP.out.1, HOP.out.2⟩, HKR.out⟩
      · have HN2 : Hid (NoZ (bytesOf s2) (i + 1)) := Lib.hid (HNZ.out.next HX.out hx)
        go_wp2
        exact ⟨⟨i + 1, by go_num, by omega, by omega, HN2, HKR⟩, by simp [intOf]; omega⟩
    · have m1 : ¬ (i : Int) < (s2.size : Int) := by have := hsz.out; omega
      have HS : Hid (Shut (bytesOf s2)) := Lib.hid (shut_n (by have h := HNZ.out; rw [show i = (bytesOf s2).length by rw [bytesOf_len]; have := hsz.out; omega] at h; exact h))
      go_wp2
      exact bodyPost_ret (v := .tuple #[.string ⟨#[]⟩, .bool false, .bool true]) (by simp [results, Tryz.results8, go_sem]) rfl ⟨.inl ⟨HOK.out, HGR.out, HVN.out, _, HB.out, _, false, rfl, fun h => by simp at h, fun _ => HS.out⟩, HKR.out⟩

end Go.Proofs.YtnfjmngchapdnaaGreatDoor

/- spec.BSessionOf. -/
namespace Go.Proofs.YtnfjmngchapdnaaGreatDoor
open Go.RowKit

/-- What BSessionOf tells of so many bytes as the modulus has. -/
def SofR (e : Ending) (ok : Prop) (N S v r : Nat) (A : ByteArray) : Prop :=
  (ok ∧ 1024 ≤ blen N ∧ v < N ∧ A.size + 11 ≤ S ∧ ∃ (O : List Nat) (R : ByteArray), Blk S r O ∧ SesTo O (bytesOf A) (bytesOf R) ∧ e = .returned (.tuple #[.string R, .bool true])) ∨
  ((¬ ok ∨ blen N < 1024 ∨ ¬ v < N ∨ S < A.size + 11) ∧ e = .returned (.tuple #[.string ⟨#[]⟩, .bool false]))

set_option maxRecDepth 1000000 in
set_option maxHeartbeats 8000000 in
theorem bSessionOf_any (k : KA) (way : Int) (ss A : ByteArray) (mb : Nat) (w : World) (hk : k.is w) (ht : k.tidy) (ok said : Prop) (D : Nat)
    (htold : Told (.agg #[.slice k.a1 k.m1 k.c1, .int .i64 k.E, .slice k.a2 k.m2 k.c2, .slice k.a3 k.m3 k.c3, .slice k.a4 k.m4 k.c4, .slice k.a5 k.m5 k.c5, .slice k.a6 k.m6 k.c6, .slice k.a7 k.m7 k.c7]) way w ok said (bval k.L1) D)
    (hsaid : said) (hss : ss.size = mb) (hmb : mb = (blen (bval k.L1) + 7) / 8) (hmb2 : mb ≤ 240) (hgt : ok → 1 < bval k.L1) (hA : A.size ≤ 300) :
    Calls Tryz.prog 10 #[.agg #[.slice k.a1 k.m1 k.c1, .int .i64 k.E, .slice k.a2 k.m2 k.c2, .slice k.a3 k.m3 k.c3, .slice k.a4 k.m4 k.c4, .slice k.a5 k.m5 k.c5, .slice k.a6 k.m6 k.c6, .slice k.a7 k.m7 k.c7], .int .i64 way, .string ss, .string A] w fun e w' =>
      SofR e ok (bval k.L1) mb (bval (bytesOf ss)) (bval (bytesOf ss) ^ D % bval k.L1) A ∧ Keeps [] w w' := by
  have hb0 := alloc_blk w (.cells #[.slice k.a1 k.m1 k.c1, .int .i64 k.E, .slice k.a2 k.m2 k.c2, .slice k.a3 k.m3 k.c3, .slice k.a4 k.m4 k.c4, .slice k.a5 k.m5 k.c5, .slice k.a6 k.m6 k.c6, .slice k.a7 k.m7 k.c7] 24)
  have hk0 : Keeps [] w (w.alloc (.cells #[.slice k.a1 k.m1 k.c1, .int .i64 k.E, .slice k.a2 k.m2 k.c2, .slice k.a3 k.m3 k.c3, .slice k.a4 k.m4 k.c4, .slice k.a5 k.m5 k.c5, .slice k.a6 k.m6 k.c6, .slice k.a7 k.m7 k.c7] 24)) := (Keeps.refl _ _).alloc _
  obtain ⟨wa, hwa⟩ : ∃ wa, wa = w.alloc (.cells #[.slice k.a1 k.m1 k.c1, .int .i64 k.E, .slice k.a2 k.m2 k.c2, .slice k.a3 k.m3 k.c3, .slice k.a4 k.m4 k.c4, .slice k.a5 k.m5 k.c5, .slice k.a6 k.m6 k.c6, .slice k.a7 k.m7 k.c7] 24) := ⟨_, rfl⟩
  rw [← hwa] at hb0 hk0
  have hop := bOpened_any k way ss mb wa (hk.kept hk0) ht ok said D (htold.kept hk0) hsaid hss hmb hmb2 hgt
  have r1 : k.m1 ≤ 240 := by rw [← hk.s1.1]; exact ht.t1.1
  have HKB := Lib.hid hb0; have HK := Lib.hid hk0; have HI := Lib.hid (hk.kept hk0)
  obtain ⟨k0, k1, k2, k3, k4, k5, k6, k7⟩ := key8 hb0
  obtain ⟨V, hV⟩ : ∃ V, V = bval (bytesOf ss) := ⟨_, rfl⟩
  rw [← hV] at hop ⊢
  obtain ⟨N, hN⟩ : ∃ N, N = bval k.L1 := ⟨_, rfl⟩
  rw [← hN] at hop hmb ⊢
  obtain ⟨r, hr⟩ : ∃ r, r = V ^ D % N := ⟨_, rfl⟩
  rw [← hr] at hop ⊢
  have HOP := Lib.hid hop; have HN := Lib.hid hN; have HMB := Lib.hid hmb
  clear hb0 hk0 hk htold hmb hss hsaid hgt hV hN hr ht hop
  go_enter Tryz.func10, Tryz.ntmps10
  go_wp2_with fail
  rw [← hwa]
  clear hwa
  refine HOP.out.mono ?_
  rintro e wb ⟨⟨h1, h2, h3, O, hB, t, p, rfl, hp1, hp2⟩ | ⟨hno, rfl⟩, hs⟩
  rotate_left
  · have HK2 := Lib.hid (HK.out.trans1 hs)
    clear hs k0 k1 k2 k3 k4 k5 k6 k7
    go_wp2
    go_ret2
    exact ⟨.inr ⟨by rcases hno with h | h | h <;> simp [h], rfl⟩, HK2.out⟩
  clear k0 k1 k2 k3 k4 k5 k6 k7 HOP
  have hkb := blk_keeps HKB.out hs (by simp)
  obtain ⟨k0, k1, k2, k3, k4, k5, k6, k7⟩ := key8 hkb
  have HK2 := Lib.hid (HK.out.trans1 hs); have HI2 := Lib.hid (HI.out.kept hs)
  have HB := Lib.hid hB; have HP := Lib.hid (And.intro hp1 hp2)
  clear hs hkb hB hp1 hp2 HKB HK HI
  go_wp2_with fail
  refine (bWidth_any k.a1 k.m1 k.c1 k.L1 k.E k.a2 k.a3 k.a4 k.a5 k.a6 k.a7 k.m2 k.c2 k.m3 k.c3 k.m4 k.c4 k.m5 k.c5 k.m6 k.c6 k.m7 k.c7 _ HI2.out.s1 (by omega)).mono ?_
  rintro e wc ⟨rfl, hs⟩
  rw [← HN.out, ← HMB.out]
  have HK3 := Lib.hid (HK2.out.trans1 hs)
  clear hs k0 k1 k2 k3 k4 k5 k6 k7
  by_cases hfit : A.size + 11 ≤ mb
  rotate_left
  · have i1 : (mb : Int) < (A.size : Int) + 11 := by omega
    go_wp2
    go_ret2
    exact ⟨.inr ⟨.inr (.inr (.inr (by omega))), rfl⟩, HK3.out⟩
  have i1 : ¬ (mb : Int) < (A.size : Int) + 11 := by omega
  have hAl := bytesOf_len A
  have htl := bytesOf_len t
  cases p
  · have hse := SesTo.shut (A := bytesOf A) (HP.out.2 rfl)
    have HSE := Lib.hid hse
    clear hse hAl htl
    go_wp2
    go_ret2
    exact ⟨.inl ⟨h1, h2, h3, hfit, O, A, HB.out, HSE.out, rfl⟩, HK3.out⟩
  · have hop := HP.out.1 rfl
    by_cases hl : t.size = A.size
    · have hse : SesTo O (bytesOf A) (bytesOf t) := .inl ⟨_, hop, by rw [hAl, htl, hl], rfl⟩
      have HSE := Lib.hid hse
      have i2 : ((t.size : Int) == (A.size : Int)) = true := by rw [hl]; simp
      have i3 : (t.size : Int) = (A.size : Int) := by omega
      clear hse hAl htl hop hl i3
      go_wp2
      go_ret2
      exact ⟨.inl ⟨h1, h2, h3, hfit, O, t, HB.out, HSE.out, rfl⟩, HK3.out⟩
    · have hse : SesTo O (bytesOf A) (bytesOf A) := .inr ⟨fun T hT hTl => hl (by have := hT.uniq hop; subst this; omega), rfl⟩
      have HSE := Lib.hid hse
      have i2 : ((t.size : Int) == (A.size : Int)) = false := by simp; omega
      clear hse hAl htl hop hl
      go_wp2
      go_ret2
      exact ⟨.inl ⟨h1, h2, h3, hfit, O, A, HB.out, HSE.out, rfl⟩, HK3.out⟩

end Go.Proofs.YtnfjmngchapdnaaGreatDoor
