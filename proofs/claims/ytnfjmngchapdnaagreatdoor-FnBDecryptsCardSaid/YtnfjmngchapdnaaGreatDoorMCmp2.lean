import Derived.Test.YtnfjmngchapdnaaGreatDoorMSmall
import Derived.Laws.CopyRow
import Derived.Lib.SliceRun
/- bigmod: IsOne, IsOdd, assign, bitLen, BitLenVarTime, BitLen, Size. -/
namespace Go.Proofs.YtnfjmngchapdnaaGreatDoor
open Go.RowKit

set_option maxRecDepth 100000 in
set_option maxHeartbeats 1000000 in
theorem nat_IsOne (p lb n c v : Nat) (w : World) (hx : NatV w p lb n c v) (hn : n ≤ 1000) :
    Calls Tryz.prog 77 #[.pointer (some ⟨p, 0, none⟩)] w fun e w' =>
      ∃ r : Nat, e = .returned (.int .u64 (r : Int)) ∧ Ch (v = 1) r ∧ w = w' := by
  have h1 := hx.hdr.cell
  have g1 := hx.le
  obtain ⟨_, L, J, hL1, hL2, hL3, hL4, hL5⟩ := hx
  cases hLc : L with
  | nil =>
    subst hLc
    have h0 : n = 0 := hL2.symm
    subst h0
    have hz : ((0 : Int) == 0) = true := rfl
    go_enter Tryz.func77, Tryz.ntmps77
    go_wp2
    go_ret
    refine ⟨0, rfl, Ch.zero.congr ?_, rfl⟩
    have e1 : v = 0 := hL5.symm
    subst e1
    simp
  | cons x0 L' =>
    have KL2 := Lib.hid hL2; have KL5 := Lib.hid hL5
    have HLc := Lib.hid hLc
    have c0 : w.cell? ⟨lb, 0, none⟩ = some (.int .u64 (x0 : Int)) := by
      have := hL1.cell 0 (by rw [hLc]; simp)
      simpa only [hLc, List.cons_append, List.getElem_cons_zero] using this
    have b0 : x0 < BB := hL4 x0 (by rw [hLc]; exact List.mem_cons_self ..)
    have hn0 : 0 < n := by rw [← hL2, hLc]; simp
    clear hL2 hL3 hL5 hLc
    have hz : ((n : Int) == 0) = false := by simp; omega
    go_enter Tryz.func77, Tryz.ntmps77
    go_wp2_with fail
    refine (ctEq_1 _ b0 _).mono ?_
    rintro e w' ⟨s0, rfl, hR0, rfl⟩
    go_wp2
    clear h1 c0 hz
    go_loop [5, 6] (fun c i => ∃ (k d : Nat), 1 ≤ k ∧ k ≤ n ∧ i = .int .i64 k ∧ c = .int .u64 d ∧ Ch (val (L.take k) = 1) d) (fun _ i => n - (intOf i).toNat)
    case atStart =>
      refine ⟨1, s0, by omega, by omega, rfl, rfl, hR0.congr ?_⟩
      rw [HLc.out]
      simp [val]
    case round =>
      obtain ⟨k, d, hk1, hk, rfl, rfl, hd⟩ := hrel
      by_cases hlt : k < n
      · have c1 := hL1.cell k (by have := KL2.out; simp; omega)
        have b1 := hL4.get k (by have := KL2.out; omega)
        rw [List.getElem_append_left (by have := KL2.out; omega)] at c1
        obtain ⟨xk, hxk⟩ : ∃ x, L[k]'(by have := KL2.out; omega) = x := ⟨_, rfl⟩
        rw [hxk] at c1 b1
        have Hxk := Lib.hid hxk; clear hxk
        go_wp2_with fail
        refine (ctEq_z _ b1 _).mono ?_
        rintro e w' ⟨s', rfl, hR, rfl⟩
        obtain ⟨r', hr', hR'⟩ := and_ch hd hR
        go_wp2
        go_round
        case measure => simp [intOf]; omega
        case rel =>
          have hLn := KL2.out
          refine ⟨k + 1, r', by omega, by omega, by go_num, rfl, hR'.congr ?_⟩
          rw [val_take_succ L k (by omega), Hxk.out]
          refine (one_step ?_).symm
          have h9 : BB ^ 1 ≤ BB ^ k := Nat.pow_le_pow_right BB_pos hk1
          rw [Nat.pow_one] at h9
          have : 1 < BB := by unfold BB; omega
          omega
      · have : k = n := by omega
        subst this
        go_wp2
        go_ret
        refine ⟨d, rfl, hd.congr ?_, rfl⟩
        rw [List.take_of_length_le (by have := KL2.out; omega), KL5.out]

theorem and_one (x : Nat) (h : x < BB) : Go.bits .and .u64 (x : Int) 1 = ((x % 2 : Nat) : Int) := by
  have := bits_and_u64_nat x 1 (by unfold BB at h; exact h) (by omega)
  rw [Nat.and_one_is_mod] at this
  exact this

set_option maxRecDepth 100000 in
set_option maxHeartbeats 1000000 in
theorem nat_IsOdd (p lb n c v : Nat) (w : World) (hx : NatV w p lb n c v) (hn : n ≤ 1000) :
    Calls Tryz.prog 71 #[.pointer (some ⟨p, 0, none⟩)] w fun e w' =>
      ∃ r : Nat, e = .returned (.int .u64 (r : Int)) ∧ Ch (v % 2 = 1) r ∧ w = w' := by
  have h1 := hx.hdr.cell
  have g1 := hx.le
  obtain ⟨_, L, J, hL1, hL2, hL3, hL4, hL5⟩ := hx
  cases L with
  | nil =>
    simp at hL2
    subst hL2
    have hz : ((0 : Int) == 0) = true := rfl
    go_enter Tryz.func71, Tryz.ntmps71
    go_wp2
    go_ret
    refine ⟨0, rfl, Ch.zero.congr ?_, rfl⟩
    have e1 : v = 0 := hL5.symm
    subst e1
    simp
  | cons x L =>
    have c0 := hL1.cell 0 (by simp)
    simp only [List.cons_append, List.getElem_cons_zero] at c0
    have b0 := hL4.head
    have e1 := and_one x b0
    have hc : Ch (v % 2 = 1) (x % 2) := ⟨by omega, by rw [← hL5]; simp only [val]; unfold BB; omega⟩
    have hn0 : 0 < n := by simp at hL2; omega
    have hz : ((n : Int) == 0) = false := by simp; omega
    clear hL1 hL2 hL3 hL4 hL5
    generalize x % 2 = r at *
    go_enter Tryz.func71, Tryz.ntmps71
    go_wp2
    go_ret
    exact ⟨r, rfl, hc, rfl⟩

set_option maxRecDepth 100000 in
set_option maxHeartbeats 1000000 in
theorem nat_assign {pr : Prop} (p lb q lc n c c' v u on : Nat) (w : World) (hx : NatV w p lb n c v) (hy : NatV w q lc n c' u) (hne : lb ≠ lc) (hon : Ch pr on) (hn : n ≤ 1000) :
    Calls Tryz.prog 95 #[.pointer (some ⟨p, 0, none⟩), .int .u64 (on : Int), .pointer (some ⟨q, 0, none⟩)] w fun e w' =>
      ∃ v' : Nat, e = .returned (.pointer (some ⟨p, 0, none⟩)) ∧ (pr → v' = u) ∧ (¬ pr → v' = v) ∧ NatV w' p lb n c v' ∧ Keeps [lb] w w' := by
  have h1 := hx.hdr.cell
  have h2 := hy.hdr.cell
  have g1 := hx.le
  have g2 := hy.le
  have hne' := hx.ne
  obtain ⟨hh, L, J, hL1, hL2, hL3, hL4, hL5⟩ := hx
  obtain ⟨hh', M, I, hM1, hM2, hM3, hM4, hM5⟩ := hy
  have HH := Lib.hid hh
  have KL2 := Lib.hid hL2; have KL3 := Lib.hid hL3; have KL5 := Lib.hid hL5; have KM2 := Lib.hid hM2; have KM5 := Lib.hid hM5
  clear hh hh' hL2 hL3 hL5 hM2 hM3 hM5
  go_enter Tryz.func95, Tryz.ntmps95
  go_wp2_with fail
  refine (ctMask_any on hon _).mono ?_
  rintro e w' ⟨m, rfl, hm, rfl⟩
  go_wp2
  clear h1 h2
  go_loopw [11] (fun i wr => ∃ (k : Nat) (X : List Nat), k ≤ n ∧ i = .int .i64 k ∧ Row wr lb (X ++ J) ∧ Hid (X.length = n) ∧ Lt X ∧ Hid (pr → X = M.take k ++ L.drop k) ∧ Hid (¬ pr → X = L) ∧ Keeps [lb] w wr) (fun i _ => n - (intOf i).toNat)
  case atStart => exact ⟨0, L, Nat.zero_le _, rfl, hL1, KL2, hL4, fun _ => by simp, fun _ => rfl, Keeps.refl _ _⟩
  case round =>
    obtain ⟨k, X, hk, rfl, hX, hXn, hXl, hv1, hv2, hkp⟩ := hrel
    by_cases hlt : k < n
    · have c1 := hX.cell k (by have := hXn.out; simp; omega)
      have c2 := (hM1.keeps hkp (by simpa using Ne.symm hne)).cell k (by have := KM2.out; simp; omega)
      have c3 := hX.free k
      have b1 := hXl.get k (by have := hXn.out; omega)
      have b2 := hM4.get k (by have := KM2.out; omega)
      rw [List.getElem_append_left (by have := hXn.out; omega)] at c1
      rw [List.getElem_append_left (by have := KM2.out; omega)] at c2
      obtain ⟨xk, hxk⟩ : ∃ x, X[k]'(by have := hXn.out; omega) = x := ⟨_, rfl⟩
      obtain ⟨yk, hyk⟩ : ∃ x, M[k]'(by have := KM2.out; omega) = x := ⟨_, rfl⟩
      rw [hxk] at c1 b1
      rw [hyk] at c2 b2
      have Hxk := Lib.hid hxk; have Hyk := Lib.hid hyk; clear hxk hyk
      obtain ⟨z, hz, hz1, hz2, hz3⟩ := pick_mask hm xk yk b1 b2
      have Hz2 := Lib.hid hz2; have Hz3 := Lib.hid hz3; clear hz2 hz3
      go_wp2_with fail
      refine wp_region_txt [0,0,0,1,0,0,0,0,1,0,0,0,1,0,0,0,0,2] (fun _ => True) (by kernel_rfl) (by kernel_rfl) trivial ?_
      simp only [withMarks]
      repeat (first
        | ((with_reducible refine txt_v (v := ?_) ?_ ?_); (any_goals ((with_reducible refine Yl.mk ?_ ?_); rfl; intro w hSw; (go_simp <;> (try go_bits) <;> (repeat (first | rw [if_pos (by omega)] | rw [if_neg (by omega)])) <;> with_reducible rfl))); try simp only [Act.put, List.setIfInBounds_toArray, List.set_cons_zero, List.set_cons_succ])
        | ((with_reducible refine txt_u ?_ ?_); rfl; try simp only [Act.put, List.setIfInBounds_toArray, List.set_cons_zero, List.set_cons_succ])
        | ((with_reducible refine txt_l (v := ?_) ?_ ?_); (any_goals ((with_reducible refine Reads.mk ?_ ?_); rfl; (go_simp <;> (try go_bits) <;> (repeat (first | rw [if_pos (by omega)] | rw [if_neg (by omega)])) <;> with_reducible rfl))); try simp only [Act.put, List.setIfInBounds_toArray, List.set_cons_zero, List.set_cons_succ])
        | ((with_reducible refine txt_e ?_ ?_); rfl; intro K hK; go_simp; (first | (refine hK _ _ trivial ?_) | ((first | fail); dsimp only; refine hK _ _ trivial ?_)); clear hK K; try simp only [Act.put, List.setIfInBounds_toArray, List.set_cons_zero, List.set_cons_succ]))
      refine txt_nil ?_
      go_wp2
      go_roundw
      case measure => simp [intOf]; omega
      case rel =>
        have hXn' := hXn.out
        have hLn := KL2.out
        have hMn := KM2.out
        refine ⟨k + 1, X.set k z, by omega, by go_num, ?_, by show _ = _; simp [hXn'], hXl.set _ _ hz1, fun hp => ?_, fun hp => ?_, (hkp.setCell (by simp) _).drew⟩
        · have := (hX.set k z).drew; rw [List.set_append_left _ _ (by omega)] at this; exact this
        · rw [Hz2.out hp, hv1.out hp]
          refine List.ext_getElem (by simp; omega) fun j h1 h2 => ?_
          rw [List.getElem_set]
          split
          · rename_i e; subst e
            rw [List.getElem_append_left (by simp; omega)]
            simp [Hyk.out]
          · by_cases hjk : j < k
            · rw [List.getElem_append_left (by simp; omega), List.getElem_append_left (by simp; omega)]
              simp
            · rw [List.getElem_append_right (by simp; omega), List.getElem_append_right (by simp; omega)]
              simp
              congr 1
              omega
        · have e := hv2.out hp
          have e2 := Hz3.out hp
          have e3 := Hxk.out
          subst e2
          rw [← e3]
          simp [e]
    · have : k = n := by omega
      subst this
      go_wp2
      go_ret
      have hLn := KL2.out
      have hMn := KM2.out
      refine ⟨val X, rfl, fun hp => ?_, fun hp => ?_, ⟨HH.out.keeps hkp (by simpa using hne'), X, J, hX, hXn.out, by have := hXn.out; have := KL3.out; omega, hXl, rfl⟩, hkp⟩
      · rw [hv1.out hp, List.take_of_length_le (by omega), List.drop_of_length_le (by omega), List.append_nil, KM5.out]
      · rw [hv2.out hp, KL5.out]

set_option maxRecDepth 100000 in
set_option maxHeartbeats 1000000 in
theorem bitLen_any (x : Nat) (hx : x < BB) (w : World) :
    Calls Tryz.prog 100 #[.int .u64 (x : Int)] w fun e w' => e = .returned (.int .i64 (blen x : Int)) ∧ w = w' := by
  have hb := blen_BB hx
  go_enter Tryz.func100, Tryz.ntmps100
  go_wp2
  go_loop [0, 3] (fun t l => ∃ (m j : Nat), t = .int .u64 (m : Int) ∧ l = .int .i64 (j : Int) ∧ Hid (j + blen m = blen x) ∧ m < 18446744073709551616) (fun t _ => (intOf t).toNat)
  case atStart => exact ⟨x, 0, rfl, rfl, by show _ = _; omega, by unfold BB at hx; exact hx⟩
  case round =>
    obtain ⟨m, j, rfl, rfl, hj, hm⟩ := hrel
    by_cases h0 : m = 0
    · subst h0
      have hz : ((0 : Int) == 0) = true := rfl
      go_wp2
      go_ret
      have := hj.out
      rw [blen_zero, Nat.add_zero] at this
      exact ⟨ret_int (by rw [this]), rfl⟩
    · have h1 := blen_half h0
      have H1 := Lib.hid h1
      have h2 := blen_pos h0
      have hj64 : j ≤ 64 := by have := hj.out; omega
      have hz : ((m : Int) == 0) = false := by simp; omega
      have hz' : ((m : Int) != 0) = true := by simp; omega
      clear h1
      go_wp2
      go_round
      case rel => exact ⟨m / 2, j + 1, by go_num, by go_num, by show _ = _; have := hj.out; have := H1.out; omega, by omega⟩
      case measure => simp [intOf]; omega

set_option maxRecDepth 100000 in
set_option maxHeartbeats 1000000 in
theorem nat_BitLen (p lb n c v : Nat) (w : World) (hx : NatV w p lb n c v) (hn : n ≤ 1000) :
    Calls Tryz.prog 81 #[.pointer (some ⟨p, 0, none⟩)] w fun e w' =>
      e = .returned (.int .i64 (blen v : Int)) ∧ w = w' := by
  have h1 := hx.hdr.cell
  have g1 := hx.le
  obtain ⟨_, L, J, hL1, hL2, hL3, hL4, hL5⟩ := hx
  have KL2 := Lib.hid hL2; have KL5 := Lib.hid hL5
  clear hL2 hL3 hL5
  go_enter Tryz.func81, Tryz.ntmps81
  go_wp2
  clear h1
  go_loop [5] (fun i => ∃ (k : Nat), k ≤ n ∧ i = .int .i64 ((k : Int) - 1) ∧ Hid (val (L.take k) = v)) (fun i => (intOf i + 1).toNat)
  case atStart => exact ⟨n, Nat.le_refl _, rfl, by show _ = _; rw [List.take_of_length_le (by have := KL2.out; omega), KL5.out]⟩
  case round =>
    obtain ⟨k, hk, rfl, hv⟩ := hrel
    cases k with
    | zero =>
      have hc : ¬ (0 : Int) ≤ ((0 : Nat) : Int) - 1 := by omega
      go_wp2
      go_ret
      have := hv.out
      simp [val] at this
      subst this
      exact ⟨rfl, rfl⟩
    | succ k =>
      have ek : (((k + 1 : Nat) : Int) - 1) = (k : Int) := by omega
      rw [ek]
      have hLn := KL2.out
      have c1 := hL1.cell k (by simp; omega)
      have b1 := hL4.get k (by omega)
      rw [List.getElem_append_left (by omega)] at c1
      obtain ⟨xk, hxk⟩ : ∃ x, L[k]'(by omega) = x := ⟨_, rfl⟩
      rw [hxk] at c1 b1
      have hs := val_take_succ L k (by omega)
      rw [hxk, hv.out] at hs
      have Hs := Lib.hid hs
      clear hxk hLn hs ek
      by_cases h0 : xk = 0
      · subst h0
        have hz : ((0 : Int) == 0) = true := rfl
        go_wp2
        go_round
        case rel => exact ⟨k, by omega, rfl, by show _ = _; have := Hs.out; simp at this; exact this.symm⟩
        case measure => simp [intOf]
      · have hz : ((xk : Int) == 0) = false := by simp; omega
        have hz' : ((xk : Int) != 0) = true := by simp; omega
        have b64 := blen_BB b1
        go_wp2_with fail
        refine (bitLen_any xk b1 _).mono ?_
        rintro e w' ⟨rfl, rfl⟩
        have hfin : k * 64 + blen xk = blen v := by
          have := Hs.out
          rw [this, BB_pow, blen_concat ?_ h0]
          · omega
          · rw [← BB_pow]; exact val_take_lt hL4 k (by have := KL2.out; omega)
        have Hfin := Lib.hid hfin
        clear hfin
        go_wp2
        go_ret
        exact ⟨ret_int (by have := Hfin.out; omega), rfl⟩

end Go.Proofs.YtnfjmngchapdnaaGreatDoor

/- What the builtins clear, copy, make do to rows of words. -/
namespace Go.Proofs.YtnfjmngchapdnaaGreatDoor
open Go.RowKit

theorem und_uints : Tryz.prog.underlying 110 = some (.slice 84) := by kernel_rfl
theorem info_uint : (Tryz.prog.info? 84).map (fun i => (i.zero, i.size, i.bytes)) = some (some (.int .u64 0), 1, 8) := by kernel_rfl
theorem size_uint : (Tryz.prog.info? 84).map (·.size) = some 1 := by kernel_rfl

theorem Row.setRow {w : World} {b : Nat} {L : List Nat} (h : Row w b L) (M : List Nat) : Row (w.setRow b (u64s M).toArray) b M := setRow_heap w b _ _ _ _ h
theorem Keeps.setRow {S : List Nat} {a w : World} (h : Keeps S a w) {b : Nat} (hb : b < a.heap.size → b ∈ S) (cs : Array Value) : Keeps S a (w.setRow b cs) :=
  h.trans (T := [b]) ⟨rfl, rfl, rfl, by simp [World.setRow], fun k _ hk => by
    simp only [World.setRow, Array.getElem?_modify]
    rw [if_neg (by intro e; exact hk (by simp [e]))]⟩ fun x hx => by simp at hx; subst hx; exact hb

theorem u64s_append (L M : List Nat) : u64s (L ++ M) = u64s L ++ u64s M := by simp [u64s]
theorem u64s_take (L : List Nat) (n : Nat) : (u64s L).take n = u64s (L.take n) := by simp [u64s, List.map_take]
theorem u64s_drop (L : List Nat) (n : Nat) : (u64s L).drop n = u64s (L.drop n) := by simp [u64s, List.map_drop]
theorem u64s_length (L : List Nat) : (u64s L).length = L.length := by simp [u64s]
theorem u64s_one (L : List Nat) : ∀ v ∈ u64s L, v.oneCell' = true := by
  intro v hv
  obtain ⟨x, _, rfl⟩ := List.mem_map.1 hv
  rfl
theorem u64s_zeros (m : Nat) : u64s (List.replicate m 0) = List.replicate m (.int .u64 0) := by simp [u64s]

/-- clear(xs[off:off+m]). -/
theorem run_clear_row {w : World} {b : Nat} {L : List Nat} (h : Row w b L) (off m c : Nat) (hm : off + m ≤ L.length) (hc : m ≤ c) :
    ∃ w1, (∀ ty, (Builtin.clear_ #[110] ty #[.slice (some ⟨b, off, none⟩) m c]).run Tryz.prog w = .ok (.tuple #[]) w1) ∧ Row w1 b (L.take off ++ (List.replicate m 0 ++ L.drop (off + m))) ∧ Keeps [b] w w1 := by
  obtain ⟨i, hi, hz0, hz1, hz2⟩ := info_parts info_uint
  refine ⟨w.setRow b (u64s (L.take off ++ (List.replicate m 0 ++ L.drop (off + m)))).toArray, fun ty => ?_, h.setRow _, (Keeps.refl _ _).setRow (by simp) _⟩
  cases m with
  | zero =>
    have e : L.take off ++ (List.replicate 0 0 ++ L.drop (off + 0)) = L := by simp
    rw [e, setRow_self w b _ _ _ h]
    simp [Builtin.clear_, run_underlying und_uints]
  | succ m =>
    have hst := run_storeCells_at Tryz.prog b off 84 (u64s (List.replicate (m + 1) 0)) 0 (u64s L).toArray w h (by simp [u64s_length]; omega) (u64s_one _)
    have hz : (Builtin.zeroCells #[Value.int .u64 0] (m + 1)).toList = u64s (List.replicate (m + 1) 0) := by
      rw [u64s_zeros]
      simp [Builtin.zeroCells, Nat.mod_one]
      refine List.ext_getElem (by simp) fun j h1 h2 => ?_
      simp
    simp only [Nat.add_zero, List.toList_toArray, u64s_take, u64s_drop, u64s_length, List.length_replicate, ← u64s_append, List.append_assoc] at hst
    simp [Builtin.clear_, run_underlying und_uints, zeroValue, typeInfo, hi, hz0, Value.cells, hz, hst]

/-- copy(xs[off:..], ys[os:..]) between two rows, or within one. -/
theorem run_copy_words {w : World} {b s : Nat} {L M : List Nat} (h : Row w b L) (hs : Row w s M) (off os dLen dCap sLen sCap m : Nat) (hmin : m = Nat.min sLen dLen) (hm : off + m ≤ L.length) (hsm : os + m ≤ M.length) :
    ∃ w1, (∀ ty, (Builtin.copy_ #[110, 110] ty #[.slice (some ⟨b, off, none⟩) dLen dCap, .slice (some ⟨s, os, none⟩) sLen sCap]).run Tryz.prog w = .ok (.int .i64 (m : Int)) w1) ∧
      Row w1 b (L.take off ++ ((M.drop os).take m ++ L.drop (off + m))) ∧ Keeps [b] w w1 := by
  refine ⟨w.setRow b (u64s (L.take off ++ ((M.drop os).take m ++ L.drop (off + m)))).toArray, fun ty => ?_, h.setRow _, (Keeps.refl _ _).setRow (by simp) _⟩
  have hlen : ((M.drop os).take m).length = m := by simp; omega
  have := run_copy_row Tryz.prog w 110 110 ty 84 b off dLen dCap ⟨s, os, none⟩ sLen sCap (u64s L).toArray 84 (u64s ((M.drop os).take m)) und_uints size_uint h (by rw [u64s_length, hlen, hmin]) (fun j v hj => ?_) (by simp [u64s_length]; omega) (u64s_one _)
  · rw [this]
    simp only [u64s_length, hlen, goInt, List.toList_toArray, u64s_take, u64s_drop, ← u64s_append, List.append_assoc]
  · have hjm : j < m := by
      have := (List.getElem?_eq_some_iff.1 hj).1
      rw [u64s_length, hlen] at this; exact this
    have hadd : (⟨s, os, none⟩ : Addr).add j = ⟨s, os + j, none⟩ := by unfold Addr.add; split <;> simp_all
    rw [hadd, hs.cell (os + j) (by omega)]
    simp only [u64s, List.getElem?_map, List.getElem?_take, List.getElem?_drop] at hj
    rw [if_pos hjm, List.getElem?_eq_getElem (by omega)] at hj
    exact hj

theorem made_zeros (c : Nat) : madeCells #[Value.int IntKind.u64 0] c = (List.replicate c (Value.int IntKind.u64 0)).toArray := by
  apply Array.ext
  · simp [madeCells]
  · intro j h1 h2
    simp [madeCells, Nat.mod_one]

/-- make([]uint, l, c). -/
theorem run_make_words (w : World) (l c : Nat) (hlc : l ≤ c) (hc : c ≤ 100000) :
    ∃ w1, (Instr.makeSlice 110 (.int .i64 (l : Int)) (.int .i64 (c : Int))).run Tryz.prog w = .ok (.slice (some ⟨w.heap.size, 0, none⟩) l c) w1 ∧ Row w1 w.heap.size (List.replicate c 0) ∧ Keeps [] w w1 ∧ w1.heap.size = w.heap.size + 1 := by
  obtain ⟨i, hi, hz0, hz1, hz2⟩ := info_parts info_uint
  have hr := run_make (P := Tryz.prog) w 110 84 i (.int .u64 0) und_uints hi hz0 .i64 .i64 (l : Int) (c : Int) (by omega) (by omega) (by rw [hz2]; omega) (by omega)
  simp only [Int.toNat_natCast, hz1, Nat.mul_one] at hr
  refine ⟨_, hr, ?_, (Keeps.refl _ _).alloc _, by simp⟩
  unfold Row
  show (w.heap.push _)[w.heap.size]? = _
  rw [Array.getElem?_push, if_pos rfl, u64s_zeros]
  rw [show (Value.int IntKind.u64 0).cells = #[Value.int IntKind.u64 0] from rfl, made_zeros]

end Go.Proofs.YtnfjmngchapdnaaGreatDoor
