import Derived.Test.YtnfjmngchapdnaaDoorMFnB2
import Derived.Test.YtnfjmngchapdnaaDoorMFrame
import Derived.Test.YtnfjmngchapdnaaDoorTie
import Derived.Test.YtnfjmngchapdnaaDoorCards
import Derived.Stop.LaidErr
import Derived.LaidMore
import Derived.WalkSmall
import Derived.Stop.Joined
/- Proved here: for every key, random bytes and text that are given, the law FnBEncrypts returns true, and the three read behind the call as they read before. Conditions: the package variables io.ErrShortBuffer, io.EOF, io.ErrUnexpectedEOF and rsa.ErrMessageTooLong start as the program's text lays them (the card ties them to it); none of the caller's. -/
namespace Go.Proofs.YtnfjmngchapdnaaDoor
open Go.ChangeShapes Go.WideShapes Go.ChangeAt Go.RowKit
set_option linter.unusedVariables false

theorem gShort : Tryd.prog.globalNamed "io.ErrShortBuffer" = some 1 := by kernel_rfl
theorem gEof : Tryd.prog.globalNamed "io.EOF" = some 2 := by kernel_rfl
theorem gUnex : Tryd.prog.globalNamed "io.ErrUnexpectedEOF" = some 3 := by kernel_rfl
theorem gLong : Tryd.prog.globalNamed "given.example/pub-bullary/pub/rsa.ErrMessageTooLong" = some 0 := by kernel_rfl
theorem tShort : (Tryd.prog.globals[1]?).map (·.type) = some 44 := by kernel_rfl
theorem tEof : (Tryd.prog.globals[2]?).map (·.type) = some 44 := by kernel_rfl
theorem tUnex : (Tryd.prog.globals[3]?).map (·.type) = some 44 := by kernel_rfl
theorem tLong : (Tryd.prog.globals[0]?).map (·.type) = some 44 := by kernel_rfl
theorem cellsErr : Tryd.prog.cellsOf 91 = 1 := by kernel_rfl
theorem cellsStr : Tryd.prog.cellsOf 9 = 1 := by kernel_rfl
theorem starErr : "*" ++ "errors.errorString" = "*errors.errorString" := by decide
theorem rowErr (u : TypeId) (h : Tryd.prog.typeName? 3 u = some "*errors.errorString") : u = 89 :=
  typeName_ptr_named (nm := "errors.errorString") (by rw [starErr]; kernel_rfl) (by kernel_rfl) (by decide) u (by rw [starErr]; exact h)

/-- The door's own heap meets the condition. -/
theorem door_met (os : Os) (args : Array Value) : laidMetH Tryd.prog Rows.fnBEncryptsRow.laid ((World.doorLaid Tryd.prog 85 os).forCall (fun _ _ => 0) ⟨#[], args, []⟩).memory :=
  laidMetH_of_parts3 (fuel := 8) (laidMet_of_run' 8 (by kernel_rfl) (by kernel_rfl)) (by kernel_rfl) (by kernel_rfl)

/-- What the condition gives: the four cells. -/
theorem gl_of_laid {W : World} (h : laidMetH Tryd.prog Rows.fnBEncryptsRow.laid W) : ∃ a0 a1 a2 a3 : Addr, Gl W a0 a1 a2 a3 ∧ W.var? Tryd.prog "given.example/pub-bullary/pub/rsa.ErrMessageTooLong" = some #[.iface 89 (.pointer (some a0))] := by
  rw [MakeChecks.laidMetH_plain _ _ _ (by kernel_rfl)] at h
  have h1 : laidMet Tryd.prog [("io.ErrShortBuffer", Rows.laid_io_ErrShortBuffer), ("io.EOF", Rows.laid_io_EOF), ("io.ErrUnexpectedEOF", Rows.laid_io_ErrUnexpectedEOF), ("given.example/pub-bullary/pub/rsa.ErrMessageTooLong", Rows.laid_given_example_pub_bullary_pub_rsa_ErrMessageTooLong)] W := h
  obtain ⟨a1, _, v1, _⟩ := laid_sentinel h1 gShort tShort Tryd.underlying44 rowErr Tryd.underlying89 Tryd.underlying91 rfl rfl Tryd.underlying9 cellsErr cellsStr
  obtain ⟨a2, _, v2, _⟩ := laid_sentinel h1.tail gEof tEof Tryd.underlying44 rowErr Tryd.underlying89 Tryd.underlying91 rfl rfl Tryd.underlying9 cellsErr cellsStr
  obtain ⟨a3, _, v3, _⟩ := laid_sentinel h1.tail.tail gUnex tUnex Tryd.underlying44 rowErr Tryd.underlying89 Tryd.underlying91 rfl rfl Tryd.underlying9 cellsErr cellsStr
  obtain ⟨a0, _, v0, _⟩ := laid_sentinel h1.tail.tail.tail gLong tLong Tryd.underlying44 rowErr Tryd.underlying89 Tryd.underlying91 rfl rfl Tryd.underlying9 cellsErr cellsStr
  exact ⟨a0, a1, a2, a3, ⟨by simpa using World.var?_cell gLong v0 0, by simpa using World.var?_cell gShort v1 0, by simpa using World.var?_cell gEof v2 0, by simpa using World.var?_cell gUnex v3 0⟩, v0⟩

set_option maxRecDepth 100000 in
set_option maxHeartbeats 2000000 in
theorem fnBEncrypts_lifted (os : Os) (started : os.Started) (H : Type) (enc : TypeId × Value → H) :
    ReturnsInHanded {} Tryd.checked os 3 .any (fun w args => (Rows.fnBEncryptsSpec.pre enc Tryd.prog Tryd.f3 [] false w args ∧ laidMetH Tryd.prog Rows.fnBEncryptsRow.laid w) ∧ sizedMet enc Tryd.prog Tryd.f3 (OpenSpec.ofChange Rows.fnBEncryptsSpec) false w args)
      (Rows.fnBEncryptsSpec.post enc Tryd.prog Tryd.f3 false true false false) := by
  refine returnsInHanded_of_change_and (C := Tryd.checked) (X := fun w _ => laidMetH Tryd.prog Rows.fnBEncryptsRow.laid w) (fun _ _ _ hh h => h.of_heap hh) own started (by kernel_rfl) Tryd.func3
    (ChangeSpec.witness_shaped (enc := enc) (C := Tryd.checked) (os := os) (X := fun w _ => laidMetH Tryd.prog Rows.fnBEncryptsRow.laid w) false (World.doorLaid Tryd.prog 85 os) #[.agg #[.slice none 0 0, .int .i64 0, .slice none 0 0, .slice none 0 0, .slice none 0 0, .slice none 0 0, .slice none 0 0, .slice none 0 0], .slice none 0 0, .slice none 0 0] 8 rfl (World.shaped_of_RefB (by kernel_rfl) (by kernel_rfl)) (by kernel_rfl) (by kernel_rfl) (by kernel_rfl) (door_met os _)) ?_
  intro W base args ds gs before hval0 hW _ _ hL _
  have hval : ∀ (j : Nat) t v, Tryd.f3.params[j]? = some t → args[j]? = some v → Value.okWide Tryd.prog W .any base t v := hval0
  have hW' := hW
  obtain ⟨p, q, hA0, hV0, rfl, hfz, hnd⟩ := hW
  have hA : DataW.TrodAll enc Tryd.prog W 0 (fun _ => true) true Tryd.f3.params.toList args.toList ds p := hA0
  have hV : DataW.TrodVars enc Tryd.prog W (fun _ => true) ["given.example/pub-bullary/pub/rsa.ErrMessageTooLong"] gs q := hV0
  rw [Tryd.params3] at hA hval
  obtain ⟨v0, vs0, d0, ds0, p0, q0, hargs, rfl, rfl, h0, r0⟩ := trodAll_cons hA
  obtain ⟨v1, vs1, d1, ds1, p1, q1, hargs1, rfl, rfl, h1, r1⟩ := trodAll_cons r0
  obtain ⟨v2, vs2, d2, ds2, p2, q2, hargs2, rfl, rfl, h2, r2⟩ := trodAll_cons r1
  obtain ⟨rfl, rfl, rfl⟩ := trodAll_nil r2
  subst hargs2
  subst hargs1
  obtain rfl : args = #[v0, v1, v2] := by cases args; simp_all
  have k0 := h0; have k1 := h1; have k2 := h2
  have lt0 : ∀ x ∈ p0, x.block < W.heap.size := by obtain ⟨m, hm⟩ := k0; exact DataW.trod_lt m _ _ _ hm
  have lt1 : ∀ x ∈ p1, x.block < W.heap.size := by obtain ⟨m, hm⟩ := k1; exact DataW.trod_lt m _ _ _ hm
  have lt2 : ∀ x ∈ p2, x.block < W.heap.size := by obtain ⟨m, hm⟩ := k2; exact DataW.trod_lt m _ _ _ hm
  obtain ⟨a, a2, a3, a4, a5, a6, a7, m, cb, n2, c2, n3, c3, n4, c4, n5, c5, n6, c6, n7, c7, L, L2, L3, L4, L5, L6, L7, E, rfl, hE, s0, _⟩ := open_key (hval 0 24 v0 rfl rfl) h0
  obtain ⟨a1', l1', c1', e1'⟩ := okWide_slice und_bytes (hval 1 22 v1 rfl rfl)
  subst e1'
  obtain ⟨_, hm1⟩ := h1
  obtain ⟨aR, nR, cR, R, eR, sR⟩ := open_bytes hm1
  rw [eR] at k1
  obtain ⟨a2', l2', c2', e2'⟩ := okWide_slice und_bytes (hval 2 22 v2 rfl rfl)
  subst e2'
  obtain ⟨_, hm2⟩ := h2
  obtain ⟨aM, ml, mc, M, eM, sM⟩ := open_bytes hm2
  rw [eM] at k2
  cases eR
  cases eM
  obtain ⟨b0, b1, b2, b3, hgl, hvar⟩ := gl_of_laid hL
  obtain ⟨rfl, rfl⟩ := hV.unique (vars_read1 enc gLong tLong Tryd.underlying44 hvar trivial _)
  clear hA0 hV0 hval0
  refine (fnBEncrypts_any a m cb L E a2 a3 a4 a5 a6 a7 n2 c2 n3 c3 n4 c4 n5 c5 n6 c6 n7 c7 a1' l1' c1' R a2' l2' c2' M W b0 b1 b2 b3 hgl s0 hE sR sM).mono fun e W' ⟨he, hk⟩ => ?_
  subst he
  have bel := hk.toBelow
  have hv' := var?_below bel gLong (by have := hgl.size; omega) hvar
  exact ⟨_, rfl, _, _, _, [], _, [.cell 0 0], hW', trodAll_mk1 (shut_bool Tryd.underlying4 _),
    (trodAll_cons_mk (Below.trod laidOut (by kernel_rfl) (of_decide_eq_true (by kernel_rfl)) k0 bel lt0) (trodAll_cons_mk (Below.trod laidOut (by kernel_rfl) (of_decide_eq_true (by kernel_rfl)) k1 bel lt1) (trodAll_cons_mk (Below.trod laidOut (by kernel_rfl) (of_decide_eq_true (by kernel_rfl)) k2 bel lt2) trodAll_mk0))),
    vars_read1 enc gLong tLong Tryd.underlying44 hv' trivial _, bel.frame _, fun h => by cases h⟩

theorem fnBEncrypts_row : Rows.FnBEncryptsSaid :=
  OpenClaim.holds_of_wide 3 Tryd.f3 rfl rfl rfl rfl rfl rfl rfl ⟨rfl, rfl, rfl, rfl, rfl⟩ rfl rfl rfl rfl rfl (by kernel_rfl) Tryd.func3 (by kernel_rfl)
    (of_decide_eq_true (by kernel_rfl)) (by unfold Func.isWrapper; first | (rw [if_pos (by decide +kernel)]; kernel_rfl) | (rw [if_neg (by decide +kernel)]; exact ⟨rfl, rfl⟩))
    (fun os started H enc _ => fnBEncrypts_lifted os started H enc)

theorem fnBEncrypts_said : Rows.FnBEncryptsCardSaid :=
  Claim7.holds_tied_plain_at .later [] [.sentinel, .sentinel, .sentinel, .sentinel] true (true, "f98d3f2ff2c91b06cb0313c6ec970e2396389d8fdd3da3eec6cc494a2930eaaf") true
    fnBEncrypts_row (fun _ h => by cases h) (by kernel_rfl) (fun _ h => by cases h) fnBEncrypts_row_tie rfl ⟨rfl, rfl⟩ (by kernel_rfl) rfl
    (fun f fn hf hfn => by
      obtain rfl : f = 3 := Option.some.inj ((show Tryd.prog.funcNamed "given.example/pub-bullary/laws.FnBEncrypts" = some 3 by kernel_rfl).symm.trans hf) |>.symm
      obtain rfl : fn = Tryd.f3 := (Option.some.inj (Tryd.func3.symm.trans hfn)).symm
      exact ⟨by kernel_rfl, fun j t ht => by
        rw [Tryd.params3] at ht
        have h3 : t = 24 ∨ t = 22 := by
          rcases j with _ | _ | _ | j
          · left; simpa using ht.symm
          · right; simpa using ht.symm
          · right; simpa using ht.symm
          · simp at ht
        rcases h3 with h3 | h3
        · subst h3
          exact (show Tryd.prog.wantsStandIn 24 = false by kernel_rfl)
        · subst h3
          exact (show Tryd.prog.wantsStandIn 22 = false by kernel_rfl)⟩)
    (by kernel_rfl)

end Go.Proofs.YtnfjmngchapdnaaDoor
