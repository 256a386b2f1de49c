import Derived.Test.YtnfjmngchapdnaaGreatDoorMBPr
import Derived.Test.YtnfjmngchapdnaaGreatDoorMBOp
import Derived.Test.YtnfjmngchapdnaaGreatDoorMKeyN
import Derived.Test.YtnfjmngchapdnaaGreatDoorMBDec
import Derived.Laws.AppendOwnNone
/- laws.bLooked. -/
namespace Go.Proofs.YtnfjmngchapdnaaGreatDoor
open Go.RowKit

/-- What is looked at, in the way w3. -/
def Looked (k : KA) (w3 : Nat) (said : Prop) : Prop :=
  k.tidy ∧ (blen (bval k.L1) + 7) / 8 ≤ 238 ∧ (w3 = 2 ∨ (MP (bval k.L3) ∧ MP (bval k.L4))) ∧ said

set_option maxRecDepth 1000000 in
set_option maxHeartbeats 8000000 in
theorem bLooked_any (k : KA) (w3 : Nat) (hw3 : w3 < 3) (w : World) (hk : k.is w) (ok said : Prop) (D : Nat)
    (htold : k.tidy → Told (.agg #[.slice k.a1 k.m1 k.c1, .int .i64 k.E, .slice k.a2 k.m2 k.c2, .slice k.a3 k.m3 k.c3, .slice k.a4 k.m4 k.c4, .slice k.a5 k.m5 k.c5, .slice k.a6 k.m6 k.c6, .slice k.a7 k.m7 k.c7]) (w3 : Int) w ok said (bval k.L1) D) :
    Calls Tryz.prog 5 #[.agg #[.slice k.a1 k.m1 k.c1, .int .i64 k.E, .slice k.a2 k.m2 k.c2, .slice k.a3 k.m3 k.c3, .slice k.a4 k.m4 k.c4, .slice k.a5 k.m5 k.c5, .slice k.a6 k.m6 k.c6, .slice k.a7 k.m7 k.c7], .int .i64 (w3 : Int)] w fun e w' =>
      Says e (Looked k w3 said) ∧ Keeps [] w w' := by
  have hb0 := alloc_blk w (.cells #[.slice k.a1 k.m1 k.c1, .int .i64 k.E, .slice k.a2 k.m2 k.c2, .slice k.a3 k.m3 k.c3, .slice k.a4 k.m4 k.c4, .slice k.a5 k.m5 k.c5, .slice k.a6 k.m6 k.c6, .slice k.a7 k.m7 k.c7] 24)
  have hk0 : Keeps [] w (w.alloc (.cells #[.slice k.a1 k.m1 k.c1, .int .i64 k.E, .slice k.a2 k.m2 k.c2, .slice k.a3 k.m3 k.c3, .slice k.a4 k.m4 k.c4, .slice k.a5 k.m5 k.c5, .slice k.a6 k.m6 k.c6, .slice k.a7 k.m7 k.c7] 24)) := (Keeps.refl _ _).alloc _
  obtain ⟨wb, hwb⟩ : ∃ wb, wb = w.alloc (.cells #[.slice k.a1 k.m1 k.c1, .int .i64 k.E, .slice k.a2 k.m2 k.c2, .slice k.a3 k.m3 k.c3, .slice k.a4 k.m4 k.c4, .slice k.a5 k.m5 k.c5, .slice k.a6 k.m6 k.c6, .slice k.a7 k.m7 k.c7] 24) := ⟨_, rfl⟩
  rw [← hwb] at hb0 hk0
  have hsz : wb.heap.size = w.heap.size + 1 := by rw [hwb]; simp
  have HKB := Lib.hid hb0; have HK := Lib.hid hk0; have HI := Lib.hid (hk.kept hk0)
  have HTO : Hid (k.tidy → Told (.agg #[.slice k.a1 k.m1 k.c1, .int .i64 k.E, .slice k.a2 k.m2 k.c2, .slice k.a3 k.m3 k.c3, .slice k.a4 k.m4 k.c4, .slice k.a5 k.m5 k.c5, .slice k.a6 k.m6 k.c6, .slice k.a7 k.m7 k.c7]) (w3 : Int) wb ok said (bval k.L1) D) := Lib.hid fun h => (htold h).kept hk0
  obtain ⟨k0, k1, k2, k3, k4, k5, k6, k7⟩ := key8 hb0
  clear hb0 hk0 hk htold
  have hs : Keeps [] wb (wb.alloc (.cells #[.slice k.a1 k.m1 k.c1, .slice k.a2 k.m2 k.c2, .slice k.a3 k.m3 k.c3, .slice k.a4 k.m4 k.c4, .slice k.a5 k.m5 k.c5, .slice k.a6 k.m6 k.c6, .slice k.a7 k.m7 k.c7] 22)) := (Keeps.refl _ _).alloc _
  have hct : ∀ i, i < 7 → (wb.alloc (.cells #[.slice k.a1 k.m1 k.c1, .slice k.a2 k.m2 k.c2, .slice k.a3 k.m3 k.c3, .slice k.a4 k.m4 k.c4, .slice k.a5 k.m5 k.c5, .slice k.a6 k.m6 k.c6, .slice k.a7 k.m7 k.c7] 22)).cell? ⟨w.heap.size + 1, i, none⟩ = some (.slice ([k.a1, k.a2, k.a3, k.a4, k.a5, k.a6, k.a7].getD i none) ([k.m1, k.m2, k.m3, k.m4, k.m5, k.m6, k.m7].getD i 0) ([k.c1, k.c2, k.c3, k.c4, k.c5, k.c6, k.c7].getD i 0)) := by
    intro i hi
    obtain rfl | rfl | rfl | rfl | rfl | rfl | rfl : i = 0 ∨ i = 1 ∨ i = 2 ∨ i = 3 ∨ i = 4 ∨ i = 5 ∨ i = 6 := by omega
    all_goals (rw [← hsz, alloc_cell]; rfl)
  have hst : ∀ i, i < 7 → SlB (wb.alloc (.cells #[.slice k.a1 k.m1 k.c1, .slice k.a2 k.m2 k.c2, .slice k.a3 k.m3 k.c3, .slice k.a4 k.m4 k.c4, .slice k.a5 k.m5 k.c5, .slice k.a6 k.m6 k.c6, .slice k.a7 k.m7 k.c7] 22)) ([k.a1, k.a2, k.a3, k.a4, k.a5, k.a6, k.a7].getD i none) ([k.m1, k.m2, k.m3, k.m4, k.m5, k.m6, k.m7].getD i 0) ([k.c1, k.c2, k.c3, k.c4, k.c5, k.c6, k.c7].getD i 0) ([k.L1, k.L2, k.L3, k.L4, k.L5, k.L6, k.L7].getD i []) := by
    intro i hi
    obtain rfl | rfl | rfl | rfl | rfl | rfl | rfl : i = 0 ∨ i = 1 ∨ i = 2 ∨ i = 3 ∨ i = 4 ∨ i = 5 ∨ i = 6 := by omega
    · exact HI.out.s1.kept hs
    · exact HI.out.s2.kept hs
    · exact HI.out.s3.kept hs
    · exact HI.out.s4.kept hs
    · exact HI.out.s5.kept hs
    · exact HI.out.s6.kept hs
    · exact HI.out.s7.kept hs
  have HCT := Lib.hid hct; have HST := Lib.hid hst; have HS := Lib.hid hs
  clear hct hst hs hsz
  go_enter Tryz.func5, Tryz.ntmps5
  go_wp2_with fail
  rw [← hwb]
  clear hwb
  refine (bTidy_any (w.heap.size + 1) 7 7 _ _ _ _ _ (by omega) HCT.out HST.out).mono ?_
  rintro e wc ⟨⟨b, rfl, hb⟩, rfl⟩
  clear k0 k1 k2 k3 k4 k5 k6 k7
  replace HKB := Lib.hid (blk_keeps HKB.out HS.out (by simp)); replace HK := Lib.hid (HK.out.trans1 HS.out); replace HI := Lib.hid (HI.out.kept HS.out)
  have HTO2 : Hid (k.tidy → Told (.agg #[.slice k.a1 k.m1 k.c1, .int .i64 k.E, .slice k.a2 k.m2 k.c2, .slice k.a3 k.m3 k.c3, .slice k.a4 k.m4 k.c4, .slice k.a5 k.m5 k.c5, .slice k.a6 k.m6 k.c6, .slice k.a7 k.m7 k.c7]) (w3 : Int) (wb.alloc (.cells #[.slice k.a1 k.m1 k.c1, .slice k.a2 k.m2 k.c2, .slice k.a3 k.m3 k.c3, .slice k.a4 k.m4 k.c4, .slice k.a5 k.m5 k.c5, .slice k.a6 k.m6 k.c6, .slice k.a7 k.m7 k.c7] 22)) ok said (bval k.L1) D) := Lib.hid fun h => (HTO.out h).kept HS.out
  clear HTO
  cases b
  · have HNT : Hid (¬ k.tidy) := Lib.hid fun h => by
      have : ∀ i, i < 7 → Tidy ([k.L1, k.L2, k.L3, k.L4, k.L5, k.L6, k.L7].getD i []) := by
        intro i hi
        obtain rfl | rfl | rfl | rfl | rfl | rfl | rfl : i = 0 ∨ i = 1 ∨ i = 2 ∨ i = 3 ∨ i = 4 ∨ i = 5 ∨ i = 6 := by omega
        · exact h.t1
        · exact h.t2
        · exact h.t3
        · exact h.t4
        · exact h.t5
        · exact h.t6
        · exact h.t7
      have := hb.2 this
      simp at this
    clear hb HCT HST
    go_wp2
    go_ret
    exact ⟨Says.no fun h => HNT.out h.1, HK.out⟩
  have ht := hb.1 rfl
  have HT : Hid k.tidy := Lib.hid ⟨ht 0 (by omega), ht 1 (by omega), ht 2 (by omega), ht 3 (by omega), ht 4 (by omega), ht 5 (by omega), ht 6 (by omega)⟩
  have r1 : k.m1 ≤ 240 := by rw [← HI.out.s1.1]; exact HT.out.t1.1
  clear hb ht HCT HST HS
  obtain ⟨wd, hwd⟩ : ∃ wd, wd = wb.alloc (.cells #[.slice k.a1 k.m1 k.c1, .slice k.a2 k.m2 k.c2, .slice k.a3 k.m3 k.c3, .slice k.a4 k.m4 k.c4, .slice k.a5 k.m5 k.c5, .slice k.a6 k.m6 k.c6, .slice k.a7 k.m7 k.c7] 22) := ⟨_, rfl⟩
  rw [← hwd] at HKB HK HI HTO2
  rw [← hwd]
  clear hwd
  obtain ⟨k0, k1, k2, k3, k4, k5, k6, k7⟩ := key8 HKB.out
  go_wp2_with fail
  refine (bWidth_any k.a1 k.m1 k.c1 k.L1 k.E k.a2 k.a3 k.a4 k.a5 k.a6 k.a7 k.m2 k.c2 k.m3 k.c3 k.m4 k.c4 k.m5 k.c5 k.m6 k.c6 k.m7 k.c7 _ HI.out.s1 (by omega)).mono ?_
  rintro e we ⟨rfl, hs⟩
  obtain ⟨S, hS⟩ : ∃ S, S = (blen (bval k.L1) + 7) / 8 := ⟨_, rfl⟩
  rw [← hS]
  have HSS := Lib.hid hS
  clear k0 k1 k2 k3 k4 k5 k6 k7
  replace HKB := Lib.hid (blk_keeps HKB.out hs (by simp)); replace HK := Lib.hid (HK.out.trans1 hs); replace HI := Lib.hid (HI.out.kept hs)
  have HTO := Lib.hid ((HTO2.out HT.out).kept hs)
  clear hs hS HTO2
  obtain ⟨k0, k1, k2, k3, k4, k5, k6, k7⟩ := key8 HKB.out
  by_cases hw : S ≤ 238
  rotate_left
  · have i1 : (238 : Int) < (S : Int) := by omega
    clear k0 k1 k2 k3 k4 k5 k6 k7
    go_wp2
    go_ret
    exact ⟨Says.no fun h => by have := h.2.1; have := HSS.out; omega, HK.out⟩
  have i1 : ¬ (238 : Int) < (S : Int) := by omega
  by_cases h2 : w3 = 2
  · subst h2
    go_wp2_with fail
    refine (HTO.out we (Keeps.refl _ _)).mono ?_
    rintro e wf ⟨⟨a0, a1, a2, a3, a4, a5, a6, n0, c0, n1, c1, n2, c2, n3, c3, n4, c4, n5, c5, n6, c6, bi, bs, rfl, hbs, hbi, hnum⟩, hs⟩
    clear k0 k1 k2 k3 k4 k5 k6 k7
    have HK2 := Lib.hid (HK.out.trans1 hs); have HBS := Lib.hid hbs
    clear hs hbs hbi hnum
    go_wp2
    go_ret
    refine ⟨?_, HK2.out.alloc _⟩
    cases bs
    · exact Says.no fun h => by have := HBS.out.2 h.2.2.2; simp at this
    · exact Says.yes ⟨HT.out, by have := HSS.out; omega, .inl rfl, HBS.out.1 rfl⟩
  · have i2 : ((w3 : Int) != 2) = true := by simp; omega
    go_wp2_with fail
    refine (bPrimed_any k _ HI.out HT.out).mono ?_
    rintro e wp ⟨⟨b, rfl, hb⟩, hs⟩
    clear k0 k1 k2 k3 k4 k5 k6 k7
    replace HKB := Lib.hid (blk_keeps HKB.out hs (by simp)); replace HK := Lib.hid (HK.out.trans1 hs); replace HI := Lib.hid (HI.out.kept hs)
    replace HTO := Lib.hid (HTO.out.kept hs)
    have HP := Lib.hid hb
    clear hs hb
    cases b
    · go_wp2
      go_ret
      exact ⟨Says.no fun h => by
        rcases h.2.2.1 with h3 | h3
        · exact h2 h3
        · have := HP.out.2 h3; simp at this, HK.out⟩
    · obtain ⟨k0, k1, k2, k3, k4, k5, k6, k7⟩ := key8 HKB.out
      have HPP := Lib.hid (HP.out.1 rfl)
      go_wp2_with fail
      refine (HTO.out wp (Keeps.refl _ _)).mono ?_
      rintro e wf ⟨⟨a0, a1, a2, a3, a4, a5, a6, n0, c0, n1, c1, n2, c2, n3, c3, n4, c4, n5, c5, n6, c6, bi, bs, rfl, hbs, hbi, hnum⟩, hs⟩
      clear k0 k1 k2 k3 k4 k5 k6 k7
      have HK2 := Lib.hid (HK.out.trans1 hs); have HBS := Lib.hid hbs
      clear hs hbs hbi hnum
      go_wp2
      go_ret
      refine ⟨?_, HK2.out.alloc _⟩
      cases bs
      · exact Says.no fun h => by have := HBS.out.2 h.2.2.2; simp at this
      · exact Says.yes ⟨HT.out, by have := HSS.out; omega, .inr HPP.out, HBS.out.1 rfl⟩

end Go.Proofs.YtnfjmngchapdnaaGreatDoor

/- impl.BSession: by any way that makes the key. -/
namespace Go.Proofs.YtnfjmngchapdnaaGreatDoor
open Go.RowKit

/-- What BSession leaves. -/
def BSesR (e : Ending) (w' : World) (ok : Prop) (N S v r ns : Nat) (A : List Nat) : Prop :=
  (ok ∧ 1024 ≤ blen N ∧ v < N ∧ ns + 11 ≤ S ∧ ∃ (O R : List Nat) (a : Option Addr) (c : Nat), Blk S r O ∧ SesTo O A R ∧ SlB w' a ns c R ∧ e = .returned (.tuple #[.slice a ns c, .bool true])) ∨
  ((¬ ok ∨ blen N < 1024 ∨ ¬ v < N ∨ S < ns + 11) ∧ ∃ x, e = .returned (.tuple #[x, .bool false]))

/-- The slice that holds the session key's copy. -/
def Own (w : World) (B : Nat) (a : Option Addr) (ns c : Nat) (A : List Nat) : Prop :=
  SlB w a ns c A ∧ ∃ g, B ≤ g ∧ g < w.heap.size ∧ (0 < ns → a = some ⟨g, 0, none⟩ ∧ ∃ cur : Array Value, w.heap[g]? = some (.cells cur 5 (0, 0)) ∧ ns ≤ cur.size)
theorem Own.of {w : World} {B : Nat} {v : Value} {n : Nat} {L : List Nat} (h : w.ownsRow B 5 1 v n (u8s L)) (hL : LtB L) (hB : B < w.heap.size) : ∃ a c, v = .slice a n c ∧ Own w B a n c L := by
  obtain ⟨a, c, rfl, h1, _⟩ := SlB.of_own h hL
  rcases h.2 with ⟨_, hn⟩ | ⟨g, cap, cur, hv, hb, hg, hc, _, hs, ht⟩
  · exact ⟨a, c, rfl, h1, B, Nat.le_refl _, hB, fun h => by omega⟩
  · simp only [Value.slice.injEq, true_and] at hv
    obtain ⟨rfl, rfl⟩ := hv
    exact ⟨_, _, rfl, h1, g, hb, lt_of_block hg, fun _ => ⟨rfl, cur, hg, by omega⟩⟩

/-- An append whose run is known. -/
theorem wpList_append_run {P : Program} {w : World} {ops : Array Oper} {rest : List Oper} {o : Oper} {a : Act} {Q : Exit → Act → World → Prop} (hgd : o.guard = none) (s x : Operand) (t : TypeId)
    (ho : o.op = .call { callee := .builtin .append, args := #[s, x], argTypes := #[t, t] }) (v u v' : Value) (w' : World) (hs : a.eval s = v) (hx : a.eval x = u)
    (hrun : (Builtin.append_ #[t, t] o.type #[v, u]).run P w = .ok v' w') (h : wpList P ops Q rest (a.put o.dst v') w') : wpList P ops Q (o :: rest) a w := by
  refine wpList_plain hgd fun K hK => ?_
  unfold Oper.wp execOp
  simp only [ho, resolve, invoke, builtin, Sem.run_bind, Sem.run_pure, Result.andThen_ok, List.map_toArray, List.map_cons, List.map_nil, hs, hx, hrun]
  exact hK _ _ h
/-- append([]byte{}, xs...), xs nil or not. -/
theorem append_copy {w : World} {aS : Option Addr} {ns cS : Nat} {A : List Nat} (hA : SlB w aS ns cS A) (hns : ns ≤ 300) (hnil : aS = none → ns = 0 ∧ cS = 0) :
    ∃ (a : Option Addr) (c : Nat) (w2 : World), (Builtin.append_ #[22, 22] 22 #[.slice (some ⟨w.heap.size, 0, none⟩) 0 0, .slice aS ns cS]).run Tryz.prog (w.alloc (.cells #[] 5)) = .ok (.slice a ns c) w2 ∧ Own w2 w.heap.size a ns c A ∧ Keeps [] w w2 := by
  obtain ⟨i0, hi, hz0, hz1, hz2⟩ := info_parts info_byte
  have hmade : (w.alloc (.cells #[] 5)).ownsRow w.heap.size 5 1 (.slice (some ⟨w.heap.size, 0, none⟩) 0 0) 0 [] := World.ownsRow_made w #[] 0 (Nat.le_refl _) (Nat.zero_le _) rfl
  have hk0 : Keeps [] w (w.alloc (.cells #[] 5)) := (Keeps.refl _ _).alloc _
  rcases aS with _ | ad
  · obtain ⟨rfl, rfl⟩ := hnil rfl
    have hA0 : A = [] := List.length_eq_zero_iff.1 hA.1
    subst hA0
    refine ⟨some ⟨w.heap.size, 0, none⟩, 0, _, run_append_owned_none (P := Tryz.prog) (w := w.alloc (.cells #[] 5)) w.heap.size 22 22 5 i0 1 und_bytes hi _ 0 [] hmade, ⟨SlB.empty _ _ _, w.heap.size, Nat.le_refl _, by simp, fun h => by omega⟩, hk0⟩
  · obtain ⟨v', w2, hrun, hown, hgrow, _⟩ := run_append_own (P := Tryz.prog) (w.alloc (.cells #[] 5)) w.heap.size 22 22 5 i0 (.int .u8 0) 1 1 und_bytes hi hz0 hz1 hz2 rfl (by decide) _ 0 [] hmade ad ns cS (u8s A) (by simp [u8s, hA.1])
      (by
        intro j u hj
        have hjn : j < A.length := by
          have := (List.getElem?_eq_some_iff.1 hj).1
          simpa [u8s] using this
        obtain ⟨b, o, e, hb, hB⟩ := hA.2.2.2 (by intro h; simp [h] at hjn)
        have e' : ad = ⟨b, o, none⟩ := by simpa using e
        subst e'
        have h5 := hB j hjn
        rw [Addr.add_lit]
        refine Lib.cell?_alloc_some _ ?_
        rw [h5]
        simpa [u8s, hjn] using hj)
      (by intro u hu; obtain ⟨x, _, rfl⟩ := List.mem_map.1 hu; rfl) (by unfold maxLen; omega) (by omega) (by simp)
    have hk2 : Keeps [] w w2 := Keeps.below (((Below.refl _ w).alloc (Nat.le_refl _) _).grown hgrow (by simp) (by intro k hk; simp [Value.ownBlock] at hk; omega)) rfl
    have hown' : w2.ownsRow w.heap.size 5 1 v' ns (u8s A) := by simpa using hown
    have hlt2 : w.heap.size < w2.heap.size := by have := hgrow.size; simp at this; omega
    obtain ⟨a2, c2, rfl, hOwn⟩ := Own.of hown' hA.2.2.1 hlt2
    exact ⟨a2, c2, w2, hrun, hOwn, hk2⟩

set_option maxRecDepth 1000000 in
set_option maxHeartbeats 8000000 in
theorem bSession_any (k : KA) (way : Int) (s : Option Addr) (mb cb : Nat) (L : List Nat) (aS : Option Addr) (ns cS : Nat) (A : List Nat) (w : World) (ok : Prop) (N D : Nat) (a0 : Addr)
    (hko : Keyed (.agg #[.slice k.a1 k.m1 k.c1, .int .i64 k.E, .slice k.a2 k.m2 k.c2, .slice k.a3 k.m3 k.c3, .slice k.a4 k.m4 k.c4, .slice k.a5 k.m5 k.c5, .slice k.a6 k.m6 k.c6, .slice k.a7 k.m7 k.c7]) way w ok N D a0)
    (hs : SlB w s mb cb L) (hmb : mb = (blen N + 7) / 8) (hmb2 : mb ≤ 1000) (hA : SlB w aS ns cS A) (hns : ns ≤ 300) (hnil : aS = none → ns = 0 ∧ cS = 0) :
    Calls Tryz.prog 11 #[.agg #[.slice k.a1 k.m1 k.c1, .int .i64 k.E, .slice k.a2 k.m2 k.c2, .slice k.a3 k.m3 k.c3, .slice k.a4 k.m4 k.c4, .slice k.a5 k.m5 k.c5, .slice k.a6 k.m6 k.c6, .slice k.a7 k.m7 k.c7], .int .i64 way, .slice s mb cb, .slice aS ns cS] w fun e w' =>
      BSesR e w' ok N mb (bval L) (bval L ^ D % N) ns A ∧ Keeps [] w w' := by
  have hk0 : Keeps [] w ((w.alloc (.cells #[.slice k.a1 k.m1 k.c1, .int .i64 k.E, .slice k.a2 k.m2 k.c2, .slice k.a3 k.m3 k.c3, .slice k.a4 k.m4 k.c4, .slice k.a5 k.m5 k.c5, .slice k.a6 k.m6 k.c6, .slice k.a7 k.m7 k.c7] 24)).alloc (.cells #[.bool false] 4)) := ((Keeps.refl _ _).alloc _).alloc _
  have hb0 : ((w.alloc (.cells #[.slice k.a1 k.m1 k.c1, .int .i64 k.E, .slice k.a2 k.m2 k.c2, .slice k.a3 k.m3 k.c3, .slice k.a4 k.m4 k.c4, .slice k.a5 k.m5 k.c5, .slice k.a6 k.m6 k.c6, .slice k.a7 k.m7 k.c7] 24)).alloc (.cells #[.bool false] 4)).heap[w.heap.size + 1]? = some (.cells #[.bool false] 4 (0, 0)) := by
    show ((w.heap.push _).push _)[w.heap.size + 1]? = _
    rw [Array.getElem?_push, if_pos (by simp)]
  have HKO := Lib.hid (hko _ hk0)
  have HK0 := Lib.hid hk0; have HB0 := Lib.hid hb0; have HS := Lib.hid hs; have HMB := Lib.hid hmb; have HA := Lib.hid hA; have HNIL := Lib.hid hnil
  obtain ⟨r, hr⟩ : ∃ r, r = bval L ^ D % N := ⟨_, rfl⟩
  rw [← hr]
  have HR := Lib.hid hr
  clear hk0 hb0 hko hs hr hmb hA hnil
  go_enter_defers Tryz.func11, Tryz.ntmps11
  go_wp2_with fail
  refine HKO.out.mono ?_
  rintro e w1 ⟨⟨hok, K, rfl, hI, hN, hD, ha⟩ | ⟨hno, rfl⟩, hk1⟩
  rotate_left
  · have hb2 := blk_keeps HB0.out hk1 (by simp)
    have cc := cell_of_one hb2
    have ff := free_of_one hb2
    have HK1 := Lib.hid (HK0.out.trans1 hk1)
    clear hk1
    go_wp2
    refine leaves_cons (f := 22) (args := #[.pointer (some ⟨w.heap.size + 1, 0, none⟩)]) (by simp) (by simp [go_sem]) ?_
    refine (kept_idle ⟨w.heap.size + 1, 0, none⟩ _).mono ?_
    rintro e u' w'' ⟨rfl, rfl, rfl⟩
    have hb3 := one_setCell (u := .bool false) hb2
    have d3 := cell_of_one hb3
    have hk3 := HK1.out.setCell (p := ⟨w.heap.size + 1, 0, none⟩) (fun h => absurd h (by simp)) (.bool false)
    simp [Leaves, settle, results, Tryz.results11, go_sem, d3]
    exact ⟨.inr ⟨.inl hno, _, rfl⟩, hk3⟩
  have hb2 := blk_keeps HB0.out hk1 (by simp)
  have hkk := HK0.out.trans1 hk1
  have hsz : w.heap.size + 2 ≤ w1.heap.size := by have := hk1.size; simpa using this
  have HB2 := Lib.hid hb2; have HK1 := Lib.hid hkk; have HI := Lib.hid hI
  subst hN hD ha
  clear hb2 hkk hk1 hI HKO
  obtain ⟨a2, c2, w2, hap, hOwn, hk2⟩ := append_copy (HA.out.kept HK1.out) hns HNIL.out
  have HOWN := Lib.hid hOwn; have HK2 := Lib.hid hk2
  clear hOwn hk2
  have HAP := Lib.hid hap
  clear hap
  go_wp2_with (at_builtin; refine wpList_append_run rfl _ _ 22 rfl _ _ _ _ rfl rfl HAP.out ?_)
  refine (clone2 s mb cb L _ (HS.out.kept (HK1.out.trans1 HK2.out)) (by omega)).mono ?_
  rintro e w3 ⟨⟨b1, g1, rfl, hO1, _⟩, hk3⟩
  obtain ⟨hSl, g, hg1, hg2, hcur⟩ := HOWN.out
  have hKW := HK2.out.trans1 hk3
  have hse := sessionKey_any K b1 mb g1 L .nilIface a2 ns c2 g A w3 (HI.out.kept hKW) hO1 HMB.out hmb2 (hSl.kept hk3) hns (fun h => by
    obtain ⟨e1, cur, e2, e3⟩ := hcur h
    exact ⟨e1, cur, blk_keeps e2 hk3 (by simp), e3⟩)
  rw [← HR.out] at hse
  have HSE := Lib.hid hse
  have HB3 := Lib.hid (blk_keeps HB2.out hKW (by simp)); have HK3 := Lib.hid (HK1.out.trans1 hKW)
  clear hse hO1 hk3 hKW hSl hcur HOWN hg2
  go_wp2_with fail
  refine HSE.out.mono ?_
  have hgn : w.heap.size + 1 ≠ g := by omega
  have hgw : w.heap.size ≤ g := by omega
  rintro e w4 ⟨⟨q1, q2, q3, O, R, q4, q5, q6, rfl⟩ | ⟨hno, t, x, rfl⟩, hk4⟩
  · have hb4 := blk_keeps HB3.out hk4 (by simp; omega)
    have cc := cell_of_one hb4
    have ff := free_of_one hb4
    have HQ := Lib.hid q6; have HK4 := Lib.hid (HK3.out.trans hk4 (by intro x hx hlt; simp at hx; omega)); have HQ4 := Lib.hid q4; have HQ5 := Lib.hid q5
    clear q6 hk4 q4 q5
    go_wp2_with fail
    refine wp_region_txt [0,0,0,0,2] (fun _ => True) (by kernel_rfl) (by kernel_rfl) trivial ?_
    simp only [withMarks]
    repeat (first
      | ((with_reducible refine txt_v (v := ?_) ?_ ?_); (any_goals ((with_reducible refine Yl.mk ?_ ?_); rfl; intro w hSw; (go_simp <;> (try go_bits) <;> (repeat (first | rw [if_pos (by omega)] | rw [if_neg (by omega)])) <;> with_reducible rfl))); try simp only [Act.put, List.setIfInBounds_toArray, List.set_cons_zero, List.set_cons_succ])
      | ((with_reducible refine txt_u ?_ ?_); rfl; try simp only [Act.put, List.setIfInBounds_toArray, List.set_cons_zero, List.set_cons_succ])
      | ((with_reducible refine txt_l (v := ?_) ?_ ?_); (any_goals ((with_reducible refine Reads.mk ?_ ?_); rfl; (go_simp <;> (try go_bits) <;> (repeat (first | rw [if_pos (by omega)] | rw [if_neg (by omega)])) <;> with_reducible rfl))); try simp only [Act.put, List.setIfInBounds_toArray, List.set_cons_zero, List.set_cons_succ])
      | ((with_reducible refine txt_e ?_ ?_); rfl; intro K hK; go_simp; (first | (refine hK _ _ trivial ?_) | ((first | fail); dsimp only; refine hK _ _ trivial ?_)); clear hK K; try simp only [Act.put, List.setIfInBounds_toArray, List.set_cons_zero, List.set_cons_succ]))
    refine txt_nil ?_
    go_wp2
    refine leaves_cons (f := 22) (args := #[.pointer (some ⟨w.heap.size + 1, 0, none⟩)]) (by simp) (by simp [go_sem]) ?_
    refine (kept_idle ⟨w.heap.size + 1, 0, none⟩ _).mono ?_
    rintro e u' w'' ⟨rfl, rfl, rfl⟩
    have hb5 := one_setCell (u := .bool true) hb4
    have d3 := cell_of_one hb5
    have hk5 := HK4.out.setCell (p := ⟨w.heap.size + 1, 0, none⟩) (fun h => absurd h (by simp)) (.bool true)
    have hs5 := SlB.beside2 HQ.out hb4 (.bool true)
    simp [Leaves, settle, results, Tryz.results11, go_sem, d3]
    exact ⟨.inl ⟨hok, q1, q3, q2, O, R, a2, c2, HQ4.out, HQ5.out, hs5, rfl⟩, hk5.drew⟩
  · have hb4 := blk_keeps HB3.out hk4 (by simp; omega)
    have cc := cell_of_one hb4
    have ff := free_of_one hb4
    have HK4 := Lib.hid (HK3.out.trans hk4 (by intro x hx hlt; simp at hx; omega)); have HNO := Lib.hid hno
    clear hk4 hno
    go_wp2_with fail
    refine wp_region_txt [0,0,0,0,2] (fun _ => True) (by kernel_rfl) (by kernel_rfl) trivial ?_
    simp only [withMarks]
    repeat (first
      | ((with_reducible refine txt_v (v := ?_) ?_ ?_); (any_goals ((with_reducible refine Yl.mk ?_ ?_); rfl; intro w hSw; (go_simp <;> (try go_bits) <;> (repeat (first | rw [if_pos (by omega)] | rw [if_neg (by omega)])) <;> with_reducible rfl))); try simp only [Act.put, List.setIfInBounds_toArray, List.set_cons_zero, List.set_cons_succ])
      | ((with_reducible refine txt_u ?_ ?_); rfl; try simp only [Act.put, List.setIfInBounds_toArray, List.set_cons_zero, List.set_cons_succ])
      | ((with_reducible refine txt_l (v := ?_) ?_ ?_); (any_goals ((with_reducible refine Reads.mk ?_ ?_); rfl; (go_simp <;> (try go_bits) <;> (repeat (first | rw [if_pos (by omega)] | rw [if_neg (by omega)])) <;> with_reducible rfl))); try simp only [Act.put, List.setIfInBounds_toArray, List.set_cons_zero, List.set_cons_succ])
      | ((with_reducible refine txt_e ?_ ?_); rfl; intro K hK; go_simp; (first | (refine hK _ _ trivial ?_) | ((first | fail); dsimp only; refine hK _ _ trivial ?_)); clear hK K; try simp only [Act.put, List.setIfInBounds_toArray, List.set_cons_zero, List.set_cons_succ]))
    refine txt_nil ?_
    go_wp2
    refine leaves_cons (f := 22) (args := #[.pointer (some ⟨w.heap.size + 1, 0, none⟩)]) (by simp) (by simp [go_sem]) ?_
    refine (kept_idle ⟨w.heap.size + 1, 0, none⟩ _).mono ?_
    rintro e u' w'' ⟨rfl, rfl, rfl⟩
    have hb5 := one_setCell (u := .bool false) hb4
    have d3 := cell_of_one hb5
    have hk5 := HK4.out.setCell (p := ⟨w.heap.size + 1, 0, none⟩) (fun h => absurd h (by simp)) (.bool false)
    simp [Leaves, settle, results, Tryz.results11, go_sem, d3]
    exact ⟨.inr ⟨by rcases HNO.out with h | h | h <;> simp [h], _, rfl⟩, hk5.drew⟩

end Go.Proofs.YtnfjmngchapdnaaGreatDoor

/- laws: bAwake, FnBPublic. -/
namespace Go.Proofs.YtnfjmngchapdnaaGreatDoor
open Go.RowKit

theorem pubOk15 : 1 < bval [15] ∧ PubOk (bval [15]) 3 := by
  have : bval [15] = 15 := rfl
  rw [this]
  exact ⟨by omega, by unfold PubOk; omega⟩

set_option maxRecDepth 100000 in
set_option maxHeartbeats 2000000 in
theorem bAwake_any (w : World) :
    Calls Tryz.prog 7 #[] w fun e w' => e = .returned (.bool true) ∧ Keeps [] w w' := by
  have hk0 : Keeps [] w (w.alloc (.cells #[.int .u8 15] 5)) := (Keeps.refl _ _).alloc _
  have hs : SlB (w.alloc (.cells #[.int .u8 15] 5)) (some ⟨w.heap.size, 0, none⟩) 1 1 [15] := by
    refine ⟨rfl, Nat.le_refl _, fun x hx => by simp at hx; omega, fun _ => ⟨_, _, rfl, by simp, fun i hi => ?_⟩⟩
    have : i = 0 := by simp at hi; omega
    subst this
    rw [Nat.add_zero, alloc_cell]; rfl
  have HK := Lib.hid hk0; have HS := Lib.hid hs
  clear hk0 hs
  go_enter Tryz.func7, Tryz.ntmps7
  go_wp2_with fail
  refine (bPublic_any (some ⟨w.heap.size, 0, none⟩) 1 1 [15] 3 none none none none none none 0 0 0 0 0 0 0 0 0 0 0 0 _ HS.out (by omega) (by omega)).mono ?_
  rintro e w1 ⟨⟨b, rfl, hb⟩, hk1⟩
  have hb' := hb.2 pubOk15
  subst hb'
  clear hb
  go_wp2
  go_ret
  exact ⟨rfl, HK.out.trans1 hk1⟩

end Go.Proofs.YtnfjmngchapdnaaGreatDoor
