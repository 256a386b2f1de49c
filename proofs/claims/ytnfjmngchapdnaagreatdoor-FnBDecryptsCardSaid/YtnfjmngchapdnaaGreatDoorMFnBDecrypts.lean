import Derived.Test.YtnfjmngchapdnaaGreatDoorMFd
import Derived.Test.YtnfjmngchapdnaaGreatDoorTie
import Derived.Test.YtnfjmngchapdnaaGreatDoorCards
import Derived.Stop.LaidErr
import Derived.LaidMore
import Derived.WalkSmall
import Derived.Stop.Joined
/- Proved here: for every key, way, bytes and session key that are given, the law FnBDecrypts returns true, and the four read behind the call as they read before. Conditions: the package variable rsa.ErrDecryption starts as the program's text lays it (the card ties it to it); none of the caller's. -/
namespace Go.Proofs.YtnfjmngchapdnaaGreatDoor
open Go.ChangeShapes Go.WideShapes Go.ChangeAt Go.RowKit
set_option linter.unusedVariables false

theorem keyOk_gt {N : Nat} {E : Int} {D P Q DP DQ QI : Nat} (h : KeyOk N E D P Q DP DQ QI) : 1 < N := by
  have := h.p3; have := h.pN; omega

theorem fnBDecrypts_any (k : KA) (y : Nat) (hy : y < 256) (s : Option Addr) (mb cb : Nat) (LS : List Nat) (aS : Option Addr) (ns cS : Nat) (A : List Nat) (w : World) (a0 : Addr)
    (hk : k.is w) (hs : SlB w s mb cb LS) (hA : SlB w aS ns cS A) (hnil : aS = none → ns = 0 ∧ cS = 0) (hg : Gd w a0) :
    Calls Tryz.prog 3 #[.agg #[.slice k.a1 k.m1 k.c1, .int .i64 k.E, .slice k.a2 k.m2 k.c2, .slice k.a3 k.m3 k.c3, .slice k.a4 k.m4 k.c4, .slice k.a5 k.m5 k.c5, .slice k.a6 k.m6 k.c6, .slice k.a7 k.m7 k.c7], .int .u8 (y : Int), .slice s mb cb, .slice aS ns cS] w fun e w' => e = .returned (.bool true) ∧ Keeps [] w w' := by
  have h3 : y % 3 = 0 ∨ y % 3 = 1 ∨ y % 3 = 2 := by omega
  rcases h3 with h | h | h
  · exact fnBDecrypts_way k y 0 hy h s mb cb LS aS ns cS A w a0 hk hs hA hnil hg _ True _ (fun h => keyOk_gt h.2) (fun w' hk' ht => told_0 k w' hk' ht) (fun w' hk' hg' hl => by
      rcases hl.2.2.1 with h0 | ⟨hp, hq⟩
      · omega
      · exact keyed_0 k w' hk' hl.1 a0 hg' hp.pr hq.pr)
  · exact fnBDecrypts_way k y 1 hy h s mb cb LS aS ns cS A w a0 hk hs hA hnil hg _ _ _ (fun h => keyOk_gt h.1) (fun w' hk' ht => told_1 k w' hk' ht) (fun w' hk' hg' hl => by
      rcases hl.2.2.1 with h0 | ⟨hp, hq⟩
      · omega
      · exact keyed_1 k w' hk' hl.1 a0 hg' hp.pr hq.pr hl.2.2.2)
  · exact fnBDecrypts_way k y 2 hy h s mb cb LS aS ns cS A w a0 hk hs hA hnil hg _ True _ (fun h => h.1) (fun w' hk' ht => told_2 k w' hk' ht) (fun w' hk' hg' hl => keyed_2 k w' hk' hl.1 a0 hg')

theorem gDec : Tryz.prog.globalNamed "given.example/pub-bullary/pub/rsa.ErrDecryption" = some 0 := by kernel_rfl
theorem tDec : (Tryz.prog.globals[0]?).map (·.type) = some 54 := by kernel_rfl
theorem cellsErr : Tryz.prog.cellsOf 126 = 1 := by kernel_rfl
theorem cellsStr : Tryz.prog.cellsOf 9 = 1 := by kernel_rfl
theorem starErr : "*" ++ "errors.errorString" = "*errors.errorString" := by decide
theorem rowErr (u : TypeId) (h : Tryz.prog.typeName? 3 u = some "*errors.errorString") : u = 124 :=
  typeName_ptr_named (nm := "errors.errorString") (by rw [starErr]; kernel_rfl) (by kernel_rfl) (by decide) u (by rw [starErr]; exact h)
/-- A nil slice has nothing. -/
theorem open_nil {H : Type} {enc : TypeId × Value → H} {W : World} {n : Nat} {v : Value} {y : DataW H × List MemPlace} {a : Option Addr} {m c : Nat} (h : DataW.trod enc Tryz.prog W 0 (fun _ => true) true n 22 [v] = some y) (hv : v = .slice a m c) (ha : a = none) : m = 0 ∧ c = 0 := by
  subst hv ha
  rcases open_ints und_bytes und_u8 (by kernel_rfl) h with ⟨hcs, _⟩ | ⟨x, l, c', zs, hcs, _⟩
  · simpa using hcs
  · simp at hcs

/-- The door's own heap meets the condition. -/
theorem door_met (os : Os) (args : Array Value) : laidMetH Tryz.prog Rows.fnBDecryptsRow.laid ((World.doorLaid Tryz.prog 28 os).forCall (fun _ _ => 0) ⟨#[], args, []⟩).memory :=
  laidMetH_of_parts3 (fuel := 8) (laidMet_of_run' 8 (by kernel_rfl) (by kernel_rfl)) (by kernel_rfl) (by kernel_rfl)

/-- What the condition gives: the cell. -/
theorem gd_of_laid {W : World} (h : laidMetH Tryz.prog Rows.fnBDecryptsRow.laid W) : ∃ a0 : Addr, Gd W a0 ∧ W.var? Tryz.prog "given.example/pub-bullary/pub/rsa.ErrDecryption" = some #[.iface 124 (.pointer (some a0))] := by
  rw [MakeChecks.laidMetH_plain _ _ _ (by kernel_rfl)] at h
  have h1 : laidMet Tryz.prog [("given.example/pub-bullary/pub/rsa.ErrDecryption", Rows.laid_given_example_pub_bullary_pub_rsa_ErrDecryption)] W := h
  obtain ⟨a0, _, v0, _⟩ := laid_sentinel h1 gDec tDec Tryz.underlying54 rowErr Tryz.underlying124 Tryz.underlying126 rfl rfl Tryz.underlying9 cellsErr cellsStr
  exact ⟨a0, (by simpa using World.var?_cell gDec v0 0 : W.cell? ⟨0, 0, none⟩ = some (.iface 124 (.pointer (some a0)))), v0⟩

set_option maxRecDepth 100000 in
set_option maxHeartbeats 2000000 in
theorem fnBDecrypts_lifted (os : Os) (started : os.Started) (H : Type) (enc : TypeId × Value → H) :
    ReturnsInHanded {} Tryz.checked os 3 .any (fun w args => (Rows.fnBDecryptsSpec.pre enc Tryz.prog Tryz.f3 [] false w args ∧ laidMetH Tryz.prog Rows.fnBDecryptsRow.laid w) ∧ sizedMet enc Tryz.prog Tryz.f3 (OpenSpec.ofChange Rows.fnBDecryptsSpec) false w args)
      (Rows.fnBDecryptsSpec.post enc Tryz.prog Tryz.f3 false true false false) := by
  refine returnsInHanded_of_change_and (C := Tryz.checked) (X := fun w _ => laidMetH Tryz.prog Rows.fnBDecryptsRow.laid w) (fun _ _ _ hh h => h.of_heap hh) own started (by kernel_rfl) Tryz.func3
    (ChangeSpec.witness_shaped (enc := enc) (C := Tryz.checked) (os := os) (X := fun w _ => laidMetH Tryz.prog Rows.fnBDecryptsRow.laid w) false (World.doorLaid Tryz.prog 28 os) #[.agg #[.slice none 0 0, .int .i64 0, .slice none 0 0, .slice none 0 0, .slice none 0 0, .slice none 0 0, .slice none 0 0, .slice none 0 0], .int .u8 0, .slice none 0 0, .slice none 0 0] 8 rfl (World.shaped_of_RefB (by kernel_rfl) (by kernel_rfl)) (by kernel_rfl) (by kernel_rfl) (by kernel_rfl) (door_met os _)) ?_
  intro W base args ds gs before hval0 hW _ _ hL _
  have hval : ∀ (j : Nat) t v, Tryz.f3.params[j]? = some t → args[j]? = some v → Value.okWide Tryz.prog W .any base t v := hval0
  have hW' := hW
  obtain ⟨p, q, hA0, hV0, rfl, hfz, hnd⟩ := hW
  have hA : DataW.TrodAll enc Tryz.prog W 0 (fun _ => true) true Tryz.f3.params.toList args.toList ds p := hA0
  have hV : DataW.TrodVars enc Tryz.prog W (fun _ => true) ["given.example/pub-bullary/pub/rsa.ErrDecryption"] gs q := hV0
  rw [Tryz.params3] at hA hval
  obtain ⟨v0, vs0, d0, ds0, p0, q0, hargs, rfl, rfl, h0, r0⟩ := trodAll_cons hA
  obtain ⟨v1, vs1, d1, ds1, p1, q1, hargs1, rfl, rfl, h1, r1⟩ := trodAll_cons r0
  obtain ⟨v2, vs2, d2, ds2, p2, q2, hargs2, rfl, rfl, h2, r2⟩ := trodAll_cons r1
  obtain ⟨v3, vs3, d3, ds3, p3, q3, hargs3, rfl, rfl, h3, r3⟩ := trodAll_cons r2
  obtain ⟨rfl, rfl, rfl⟩ := trodAll_nil r3
  subst hargs3
  subst hargs2
  subst hargs1
  obtain rfl : args = #[v0, v1, v2, v3] := by cases args; simp_all
  have k0 := h0; have k1 := h1; have k2 := h2; have k3 := h3
  have lt0 : ∀ x ∈ p0, x.block < W.heap.size := by obtain ⟨m, hm⟩ := k0; exact DataW.trod_lt m _ _ _ hm
  have lt1 : ∀ x ∈ p1, x.block < W.heap.size := by obtain ⟨m, hm⟩ := k1; exact DataW.trod_lt m _ _ _ hm
  have lt2 : ∀ x ∈ p2, x.block < W.heap.size := by obtain ⟨m, hm⟩ := k2; exact DataW.trod_lt m _ _ _ hm
  have lt3 : ∀ x ∈ p3, x.block < W.heap.size := by obtain ⟨m, hm⟩ := k3; exact DataW.trod_lt m _ _ _ hm
  obtain ⟨a, a2, a3, a4, a5, a6, a7, m, cb, n2, c2, n3, c3, n4, c4, n5, c5, n6, c6, n7, c7, L, L2, L3, L4, L5, L6, L7, E, rfl, hE, s0, s2, s3, s4, s5, s6, s7⟩ := open_key (hval 0 24 v0 rfl rfl) h0
  obtain ⟨z, rfl, rfl, rfl, wz⟩ := open_int und_u8 (hval 1 5 v1 rfl rfl) h1
  have hz := bounds_u8 wz
  obtain ⟨y, rfl⟩ : ∃ y : Nat, z = (y : Int) := ⟨z.toNat, by omega⟩
  obtain ⟨a2', l2', c2', e2'⟩ := okWide_slice und_bytes (hval 2 22 v2 rfl rfl)
  subst e2'
  obtain ⟨_, hm2⟩ := h2
  obtain ⟨aR, nR, cR, R, eR, sR⟩ := open_bytes hm2
  rw [eR] at k2
  obtain ⟨a3', l3', c3', e3'⟩ := okWide_slice und_bytes (hval 3 22 v3 rfl rfl)
  subst e3'
  obtain ⟨_, hm3⟩ := h3
  obtain ⟨aM, ml, mc, M, eM, sM⟩ := open_bytes hm3
  have hnil : aM = none → ml = 0 ∧ mc = 0 := fun ha => open_nil hm3 eM ha
  rw [eM] at k3
  cases eR
  cases eM
  obtain ⟨b0, hgd, hvar⟩ := gd_of_laid hL
  obtain ⟨rfl, rfl⟩ := hV.unique (vars_read1 enc gDec tDec Tryz.underlying54 hvar trivial _)
  clear hA0 hV0 hval0
  refine (fnBDecrypts_any ⟨E, a, a2, a3, a4, a5, a6, a7, m, cb, n2, c2, n3, c3, n4, c4, n5, c5, n6, c6, n7, c7, L, L2, L3, L4, L5, L6, L7⟩ y (by omega) a2' l2' c2' R a3' l3' c3' M W b0 ⟨s0, s2, s3, s4, s5, s6, s7, hE⟩ sR sM hnil hgd).mono fun e W' ⟨he, hk⟩ => ?_
  subst he
  have bel := hk.toBelow
  have hv' := var?_below bel gDec (by have := hgd.size; omega) hvar
  exact ⟨_, rfl, _, _, _, [], _, [.cell 0 0], hW', trodAll_mk1 (shut_bool Tryz.underlying4 _),
    (trodAll_cons_mk (Below.trod laidOut (by kernel_rfl) (of_decide_eq_true (by kernel_rfl)) k0 bel lt0) (trodAll_cons_mk (Below.trod laidOut (by kernel_rfl) (of_decide_eq_true (by kernel_rfl)) k1 bel lt1) (trodAll_cons_mk (Below.trod laidOut (by kernel_rfl) (of_decide_eq_true (by kernel_rfl)) k2 bel lt2) (trodAll_cons_mk (Below.trod laidOut (by kernel_rfl) (of_decide_eq_true (by kernel_rfl)) k3 bel lt3) trodAll_mk0)))),
    vars_read1 enc gDec tDec Tryz.underlying54 hv' trivial _, bel.frame _, fun h => by cases h⟩

theorem fnBDecrypts_row : Rows.FnBDecryptsSaid :=
  OpenClaim.holds_of_wide 3 Tryz.f3 rfl rfl rfl rfl rfl rfl rfl ⟨rfl, rfl, rfl, rfl, rfl⟩ rfl rfl rfl rfl rfl (by kernel_rfl) Tryz.func3 (by kernel_rfl)
    (of_decide_eq_true (by kernel_rfl)) (by unfold Func.isWrapper; first | (rw [if_pos (by decide +kernel)]; kernel_rfl) | (rw [if_neg (by decide +kernel)]; exact ⟨rfl, rfl⟩))
    (fun os started H enc _ => fnBDecrypts_lifted os started H enc)

theorem fnBDecrypts_said : Rows.FnBDecryptsCardSaid :=
  Claim7.holds_tied_plain_at .later [] [.sentinel] true (true, "34874d2c9a7faf6d56307a52a2cbe8e64dbbb26d242f4d6873ccea37b82cfd7a") false
    fnBDecrypts_row (fun _ h => by cases h) (by kernel_rfl) (fun _ h => by cases h) fnBDecrypts_row_tie rfl ⟨rfl, rfl⟩ (by kernel_rfl) rfl
    (fun f fn hf hfn => by
      obtain rfl : f = 3 := Option.some.inj ((show Tryz.prog.funcNamed "given.example/pub-bullary/laws.FnBDecrypts" = some 3 by kernel_rfl).symm.trans hf) |>.symm
      obtain rfl : fn = Tryz.f3 := (Option.some.inj (Tryz.func3.symm.trans hfn)).symm
      exact ⟨by kernel_rfl, fun j t ht => by
        rw [Tryz.params3] at ht
        have h3 : t = 24 ∨ t = 5 ∨ t = 22 := by
          rcases j with _ | _ | _ | _ | j
          · left; simpa using ht.symm
          · right; left; simpa using ht.symm
          · right; right; simpa using ht.symm
          · right; right; simpa using ht.symm
          · simp at ht
        rcases h3 with h3 | h3 | h3
        · subst h3
          exact (show Tryz.prog.wantsStandIn 24 = false by kernel_rfl)
        · subst h3
          exact (show Tryz.prog.wantsStandIn 5 = false by kernel_rfl)
        · subst h3
          exact (show Tryz.prog.wantsStandIn 22 = false by kernel_rfl)⟩)
    (by kernel_rfl)

end Go.Proofs.YtnfjmngchapdnaaGreatDoor
