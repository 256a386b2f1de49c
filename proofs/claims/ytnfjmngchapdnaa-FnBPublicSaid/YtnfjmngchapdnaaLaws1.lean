/- laws: zzFits4, bTidy, bAwake. -/
import Derived.Test.YtnfjmngchapdnaaPubIs
import Derived.Test.YtnfjmngchapdnaaBPublic
namespace Go.Proofs.Ytnfjmngchapdnaa
open Go.RowKit

set_option maxRecDepth 100000 in
set_option maxHeartbeats 2000000 in
theorem zzFits4_any (E : Int) (a a2 a3 a4 a5 a6 a7 : Option Addr) (m cb n2 c2 n3 c3 n4 c4 n5 c5 n6 c6 n7 c7 : Nat) (w : World) :
    Calls Try.prog 5 #[.agg #[.slice a m cb, .int .i64 E, .slice a2 n2 c2, .slice a3 n3 c3, .slice a4 n4 c4, .slice a5 n5 c5, .slice a6 n6 c6, .slice a7 n7 c7]] w fun e w' =>
      (∃ v, e = .returned v ∧ ∃ b, v = .bool b) ∧ Keeps [] w w' := by
  have hk0 : Keeps [] w (w.alloc (.cells #[Value.slice a m cb, .int .i64 E, .slice a2 n2 c2, .slice a3 n3 c3, .slice a4 n4 c4, .slice a5 n5 c5, .slice a6 n6 c6, .slice a7 n7 c7] 24)) := (Keeps.refl _ _).alloc _
  have HK := Lib.hid hk0
  clear hk0
  go_enter Try.func5, Try.ntmps5
  go_wp2
  all_goals (go_ret; exact ⟨⟨_, rfl, _, rfl⟩, HK.out⟩)

def Tidy (L : List Nat) : Prop := L.length ≤ 240 ∧ L.head? ≠ some 0

set_option maxRecDepth 100000 in
set_option maxHeartbeats 2000000 in
theorem bTidy_any (b k c : Nat) (A : Nat → Option Addr) (N C : Nat → Nat) (LL : Nat → List Nat) (w : World) (hk : k ≤ 1000)
    (hc : ∀ i, i < k → w.cell? ⟨b, i, none⟩ = some (.slice (A i) (N i) (C i))) (hs : ∀ i, i < k → SlB w (A i) (N i) (C i) (LL i)) :
    Calls Try.prog 6 #[.slice (some ⟨b, 0, none⟩) k c] w fun e w' =>
      Says e (∀ i, i < k → Tidy (LL i)) ∧ w' = w := by
  have HC := Lib.hid hc; have HS := Lib.hid hs
  clear hc hs
  go_enter Try.func6, Try.ntmps6
  go_wp2
  go_loopw [3] (fun ii wr => ∃ i : Nat, ii = .int .i64 (i : Int) ∧ i ≤ k ∧ Hid (∀ j, j < i → Tidy (LL j)) ∧ Hid (wr = w)) (fun ii _ => k - (intOf ii).toNat)
  case atStart => exact ⟨0, by go_num, by omega, Lib.hid (fun j h => by omega), Lib.hid rfl⟩
  case round =>
    obtain ⟨i, rfl, hi, HT, hw⟩ := hrel
    have hw' := hw.out
    subst hw'
    by_cases hlt : i < k
    · have i1 : (i : Int) < (k : Int) := by omega
      have cc := HC.out i hlt
      obtain ⟨g1, g2, g3, g4⟩ := HS.out i hlt
      obtain ⟨a, ha⟩ : ∃ a, a = A i := ⟨_, rfl⟩
      obtain ⟨m, hm⟩ : ∃ m, m = N i := ⟨_, rfl⟩
      obtain ⟨c', hc'⟩ : ∃ c', c' = C i := ⟨_, rfl⟩
      obtain ⟨L, hL⟩ : ∃ L, L = LL i := ⟨_, rfl⟩
      rw [← ha, ← hm, ← hc'] at cc
      rw [← hm] at g1 g2
      rw [← hL] at g1 g3 g4
      rw [← ha] at g4
      rw [← hc'] at g2
      have HL := Lib.hid hL
      clear ha hm hc' hL
      rcases L with _ | ⟨x, L⟩
      · have hm0 : m = 0 := by rw [← g1]; rfl
        subst hm0
        clear g4
        go_wp2
        refine ⟨⟨i + 1, by go_num, by omega, Lib.hid (fun j hj => ?_), Lib.hid trivial⟩, by simp [intOf]; omega⟩
        rcases Nat.lt_or_ge j i with h | h
        · exact HT.out j h
        · have : j = i := by omega
          subst this
          rw [← HL.out]
          exact ⟨by simp, by simp⟩
      · obtain ⟨bb, o, rfl, hbb, hB⟩ := g4 (by simp)
        have cx := hB 0 (by simp)
        simp only [List.getElem_cons_zero, Nat.add_zero] at cx
        have i2 : (0 : Int) < (m : Int) := by simp at g1; omega
        clear hB g4
        by_cases h240 : m ≤ 240
        · have i3 : ¬ (m : Int) > 240 := by omega
          by_cases hx : (x : Int) = 0
          · go_wp2
            go_ret
            refine ⟨Says.no (fun h => ?_), rfl⟩
            have h1 := h i hlt
            rw [← HL.out] at h1
            exact h1.2 (by simp; omega)
          · have i5 : ((x : Int) == 0) = false := beq_false_of_ne hx
            go_wp2
            refine ⟨⟨i + 1, by go_num, by omega, Lib.hid (fun j hj => ?_), Lib.hid trivial⟩, by simp [intOf]; omega⟩
            rcases Nat.lt_or_ge j i with h | h
            · exact HT.out j h
            · have : j = i := by omega
              subst this
              rw [← HL.out]
              exact ⟨by omega, by simp; omega⟩
        · have i3 : (m : Int) > 240 := by omega
          go_wp2
          go_ret
          refine ⟨Says.no (fun h => ?_), rfl⟩
          have h1 := h i hlt
          rw [← HL.out] at h1
          have := h1.1; omega
    · have hik : i = k := by omega
      subst hik
      have i1 : ¬ (i : Int) < (i : Int) := by omega
      go_wp2
      go_ret
      exact ⟨Says.yes HT.out, rfl⟩

end Go.Proofs.Ytnfjmngchapdnaa
