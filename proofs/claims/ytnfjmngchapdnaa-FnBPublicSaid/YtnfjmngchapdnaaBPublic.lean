/- impl.kept, impl.BPublic. -/
import Derived.Test.YtnfjmngchapdnaaPubOf
import Derived.Defers
import Derived.Recover
namespace Go.Proofs.Ytnfjmngchapdnaa
open Go.RowKit

theorem kept_idle (p : Addr) (w : World) :
    CallsD Try.prog 13 #[.pointer (some p)] .returning w fun e u' w' => e = .returned (.tuple #[]) ∧ u' = .returning ∧ w' = w := by
  refine callsD_of_wpS Try.func13 rfl fun c₀ cs hu => ?_
  apply wpS_seq
  apply wpS_region
  simp [wpOpsS, go_sem, recoverD, hu, Try.ntmps13, Exit.thenS]
  refine wpS_cond (t := false) (by simp [Act.eval, Array.replicate]) ?_
  simp only [Bool.false_eq_true, if_false]
  refine wpS_of_wp (wp_skip ?_)
  cases c₀
  simp_all [bodyPostS, results, Try.results13]

set_option maxRecDepth 100000 in
set_option maxHeartbeats 2000000 in
theorem bPublic_any (a : Option Addr) (m cb : Nat) (L : List Nat) (E : Int) (a2 a3 a4 a5 a6 a7 : Option Addr) (n2 c2 n3 c3 n4 c4 n5 c5 n6 c6 n7 c7 : Nat) (w : World) (hs : SlB w a m cb L) (hm : m ≤ 240) (hE : -9223372036854775808 ≤ E ∧ E < 9223372036854775808) :
    Calls Try.prog 8 #[.agg #[.slice a m cb, .int .i64 E, .slice a2 n2 c2, .slice a3 n3 c3, .slice a4 n4 c4, .slice a5 n5 c5, .slice a6 n6 c6, .slice a7 n7 c7]] w fun e w' =>
      (∃ b, e = .returned (.bool b) ∧ (b = true ↔ (1 < bval L ∧ PubOk (bval L) E))) ∧ Keeps [] w w' := by
  have hk0 : Keeps [] w ((w.alloc (.cells #[Value.slice a m cb, .int .i64 E, .slice a2 n2 c2, .slice a3 n3 c3, .slice a4 n4 c4, .slice a5 n5 c5, .slice a6 n6 c6, .slice a7 n7 c7] 24)).alloc (.cells #[.bool false] 4)) := ((Keeps.refl _ _).alloc _).alloc _
  have hb0 : ((w.alloc (.cells #[Value.slice a m cb, .int .i64 E, .slice a2 n2 c2, .slice a3 n3 c3, .slice a4 n4 c4, .slice a5 n5 c5, .slice a6 n6 c6, .slice a7 n7 c7] 24)).alloc (.cells #[.bool false] 4)).heap[w.heap.size + 1]? = some (.cells #[.bool false] 4 (0, 0)) := by
    show ((w.heap.push _).push _)[w.heap.size + 1]? = _
    rw [Array.getElem?_push, if_pos (by simp)]
  have HK0 := Lib.hid hk0; have HB0 := Lib.hid hb0
  clear hk0 hb0
  go_enter_defers Try.func8, Try.ntmps8
  go_wp2_with fail
  refine (publicOf_any a m cb L E a2 a3 a4 a5 a6 a7 n2 c2 n3 c3 n4 c4 n5 c5 n6 c6 n7 c7 _ (hs.kept HK0.out) hm hE).mono ?_
  rintro e w1 ⟨⟨h1, h2, pp, pm, pn, ln, pr, lr, n, rfl, _, _, _⟩ | ⟨hno, rfl⟩, hk1⟩
  · have hb2 := blk_keeps HB0.out hk1 (by simp)
    have cc := cell_of_one hb2
    have ff := free_of_one hb2
    go_wp2
    refine leaves_cons (f := 13) (args := #[.pointer (some ⟨w.heap.size + 1, 0, none⟩)]) (by simp) (by simp [go_sem]) ?_
    refine (kept_idle ⟨w.heap.size + 1, 0, none⟩ _).mono ?_
    rintro e u' w'' ⟨rfl, rfl, rfl⟩
    have hb3 := one_setCell (u := .bool true) hb2
    have d3 := cell_of_one hb3
    have hk3 := (HK0.out.trans1 hk1).setCell (p := ⟨w.heap.size + 1, 0, none⟩) (fun h => absurd h (by simp)) (.bool true)
    simp [Leaves, settle, results, Try.results8, go_sem, d3]
    exact ⟨⟨h1, h2⟩, hk3⟩
  · have hb2 := blk_keeps HB0.out hk1 (by simp)
    have cc := cell_of_one hb2
    have ff := free_of_one hb2
    go_wp2
    refine leaves_cons (f := 13) (args := #[.pointer (some ⟨w.heap.size + 1, 0, none⟩)]) (by simp) (by simp [go_sem]) ?_
    refine (kept_idle ⟨w.heap.size + 1, 0, none⟩ _).mono ?_
    rintro e u' w'' ⟨rfl, rfl, rfl⟩
    have hb3 := one_setCell (u := .bool false) hb2
    have d3 := cell_of_one hb3
    have hk3 := (HK0.out.trans1 hk1).setCell (p := ⟨w.heap.size + 1, 0, none⟩) (fun h => absurd h (by simp)) (.bool false)
    simp [Leaves, settle, results, Try.results8, go_sem, d3]
    exact ⟨fun h h2 => hno ⟨h, h2⟩, hk3⟩

end Go.Proofs.Ytnfjmngchapdnaa
