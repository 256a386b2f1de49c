import Derived.Test.YtnfjmngchapdnaaMBIs
import Derived.Test.YtnfjmngchapdnaaMFc1
import Derived.Test.YtnfjmngchapdnaaMPoB
import Derived.Test.YtnfjmngchapdnaaMFrame
/- Proved here: for every key and every way that are given, the law FnBCheck returns true, and the key and the way read behind the call as they read before; there is no condition. -/
namespace Go.Proofs.Ytnfjmngchapdnaa
open Go.ChangeShapes Go.WideShapes Go.ChangeAt Go.RowKit
set_option linter.unusedVariables false

theorem fnBCheck_any (k : KA) (y : Nat) (hy : y < 256) (w : World) (hk : k.is w) :
    Calls Try.prog 4 #[.agg #[.slice k.a1 k.m1 k.c1, .int .i64 k.E, .slice k.a2 k.m2 k.c2, .slice k.a3 k.m3 k.c3, .slice k.a4 k.m4 k.c4, .slice k.a5 k.m5 k.c5, .slice k.a6 k.m6 k.c6, .slice k.a7 k.m7 k.c7], .int .u8 (y : Int)] w fun e w' => e = .returned (.bool true) ∧ Keeps [] w w' := by
  have h3 : y % 3 = 0 ∨ y % 3 = 1 ∨ y % 3 = 2 := by omega
  rcases h3 with h | h | h
  · exact fnBCheck_0 k y hy h w hk
  · exact fnBCheck_1 k y hy h w hk
  · exact fnBCheck_2 k y hy h w hk

set_option maxRecDepth 100000 in
theorem fnBCheck_lifted (os : Os) (started : os.Started) (H : Type) (enc : TypeId × Value → H) :
    ReturnsInHanded {} Try.checked os 4 .any (Rows.fnBCheckSpec.pre6 enc Try.prog Try.f4 Rows.fnBCheckRow.domain false) (Rows.fnBCheckSpec.post enc Try.prog Try.f4 false true false false) := by
  refine returnsInHanded_of_change (C := Try.checked) own started (by kernel_rfl) Try.func4
    (ChangeSpec.witness6 (enc := enc) (C := Try.checked) false ⟨#[], #[.agg #[.slice none 0 0, .int .i64 0, .slice none 0 0, .slice none 0 0, .slice none 0 0, .slice none 0 0, .slice none 0 0, .slice none 0 0], .int .u8 0], []⟩ 8 (by kernel_rfl) (by kernel_rfl) (by kernel_rfl) (by kernel_rfl)) ?_
  intro W base args ds gs before hval0 hW hcnd _
  have hval : ∀ (j : Nat) t v, Try.f4.params[j]? = some t → args[j]? = some v → Value.okWide Try.prog W .any base t v := hval0
  have hW' := hW
  obtain ⟨p, q, hA0, hV, rfl, hfz, hnd⟩ := hW
  have hA : DataW.TrodAll enc Try.prog W 0 (fun _ => true) true Try.f4.params.toList args.toList ds p := hA0
  rw [Try.params4] at hA hval
  obtain ⟨v0, vs0, d0, ds0, p0, q0, hargs, rfl, rfl, h0, r0⟩ := trodAll_cons hA
  obtain ⟨v1, vs1, d1, ds1, p1, q1, hargs1, rfl, rfl, h1, r1⟩ := trodAll_cons r0
  obtain ⟨rfl, rfl, rfl⟩ := trodAll_nil r1
  subst hargs1
  obtain rfl : args = #[v0, v1] := by cases args; simp_all
  obtain ⟨rfl, rfl⟩ := trodVars_none hV
  have k0 := h0; have k1 := h1
  have lt0 : ∀ x ∈ p0, x.block < W.heap.size := by obtain ⟨m, hm⟩ := k0; exact DataW.trod_lt m _ _ _ hm
  have lt1 : ∀ x ∈ p1, x.block < W.heap.size := by obtain ⟨m, hm⟩ := k1; exact DataW.trod_lt m _ _ _ hm
  obtain ⟨a, a2, a3, a4, a5, a6, a7, m, cb, n2, c2, n3, c3, n4, c4, n5, c5, n6, c6, n7, c7, L, L2, L3, L4, L5, L6, L7, E, rfl, hE, s0, s2, s3, s4, s5, s6, s7⟩ := open_key (hval 0 24 v0 rfl rfl) h0
  obtain ⟨z, rfl, rfl, rfl, wz⟩ := open_int und_u8 (hval 1 5 v1 rfl rfl) h1
  have hz := bounds_u8 wz
  obtain ⟨y, rfl⟩ : ∃ y : Nat, z = (y : Int) := ⟨z.toNat, by omega⟩
  clear hA0 hval0
  refine (fnBCheck_any ⟨E, a, a2, a3, a4, a5, a6, a7, m, cb, n2, c2, n3, c3, n4, c4, n5, c5, n6, c6, n7, c7, L, L2, L3, L4, L5, L6, L7⟩ y (by omega) W ⟨s0, s2, s3, s4, s5, s6, s7, hE⟩).mono fun e W' ⟨he, hk⟩ => ?_
  subst he
  have bel := hk.toBelow
  exact ⟨_, rfl, _, _, _, [], _, [], hW', trodAll_mk1 (shut_bool Try.underlying4 _), (trodAll_cons_mk (Below.trod laidOut (by kernel_rfl) (of_decide_eq_true (by kernel_rfl)) k0 bel lt0) (trodAll_cons_mk (Below.trod laidOut (by kernel_rfl) (of_decide_eq_true (by kernel_rfl)) k1 bel lt1) trodAll_mk0)), rfl, bel.frame _, fun h => by cases h⟩

theorem fnBCheck_over : Rows.fnBCheckRow.holds Try.pinned (OpenSpec.ofChange Rows.fnBCheckSpec) :=
  OpenClaim.holds_of_wide 4 Try.f4 rfl rfl rfl rfl rfl rfl rfl ⟨rfl, rfl, rfl, rfl, rfl⟩ rfl rfl rfl rfl rfl (by kernel_rfl) Try.func4 (by kernel_rfl)
    (of_decide_eq_true (by kernel_rfl)) (by unfold Func.isWrapper; first | (rw [if_pos (by decide +kernel)]; kernel_rfl) | (rw [if_neg (by decide +kernel)]; exact ⟨rfl, rfl⟩))
    (fun os started H enc _ => fnBCheck_lifted os started H enc)

theorem fnBCheck_said : Rows.FnBCheckSaid := fnBCheck_over

end Go.Proofs.Ytnfjmngchapdnaa
