import Derived.Test.YtnfjmngchapdnaaMCmp
import Derived.Laws.CopyRow
import Derived.Lib.SliceRun
import Derived.Outline
/- What the builtins clear, copy, make do to rows of words. -/
namespace Go.Proofs.Ytnfjmngchapdnaa
open Go.RowKit

theorem und_uints : Try.prog.underlying 89 = some (.slice 62) := by kernel_rfl
theorem info_uint : (Try.prog.info? 62).map (fun i => (i.zero, i.size, i.bytes)) = some (some (.int .u64 0), 1, 8) := by kernel_rfl
theorem size_uint : (Try.prog.info? 62).map (·.size) = some 1 := by kernel_rfl

theorem Row.setRow {w : World} {b : Nat} {L : List Nat} (h : Row w b L) (M : List Nat) : Row (w.setRow b (u64s M).toArray) b M := setRow_heap w b _ _ _ _ h
theorem Keeps.setRow {S : List Nat} {a w : World} (h : Keeps S a w) {b : Nat} (hb : b < a.heap.size → b ∈ S) (cs : Array Value) : Keeps S a (w.setRow b cs) :=
  h.trans (T := [b]) ⟨rfl, rfl, rfl, by simp [World.setRow], fun k _ hk => by
    simp only [World.setRow, Array.getElem?_modify]
    rw [if_neg (by intro e; exact hk (by simp [e]))]⟩ fun x hx => by simp at hx; subst hx; exact hb

theorem u64s_append (L M : List Nat) : u64s (L ++ M) = u64s L ++ u64s M := by simp [u64s]
theorem u64s_take (L : List Nat) (n : Nat) : (u64s L).take n = u64s (L.take n) := by simp [u64s, List.map_take]
theorem u64s_drop (L : List Nat) (n : Nat) : (u64s L).drop n = u64s (L.drop n) := by simp [u64s, List.map_drop]
theorem u64s_length (L : List Nat) : (u64s L).length = L.length := by simp [u64s]
theorem u64s_one (L : List Nat) : ∀ v ∈ u64s L, v.oneCell' = true := by
  intro v hv
  obtain ⟨x, _, rfl⟩ := List.mem_map.1 hv
  rfl
theorem u64s_zeros (m : Nat) : u64s (List.replicate m 0) = List.replicate m (.int .u64 0) := by simp [u64s]

/-- clear(xs[off:off+m]). -/
theorem run_clear_row {w : World} {b : Nat} {L : List Nat} (h : Row w b L) (off m c : Nat) (hm : off + m ≤ L.length) (hc : m ≤ c) :
    ∃ w1, (∀ ty, (Builtin.clear_ #[89] ty #[.slice (some ⟨b, off, none⟩) m c]).run Try.prog w = .ok (.tuple #[]) w1) ∧ Row w1 b (L.take off ++ (List.replicate m 0 ++ L.drop (off + m))) ∧ Keeps [b] w w1 := by
  obtain ⟨i, hi, hz0, hz1, hz2⟩ := info_parts info_uint
  refine ⟨w.setRow b (u64s (L.take off ++ (List.replicate m 0 ++ L.drop (off + m)))).toArray, fun ty => ?_, h.setRow _, (Keeps.refl _ _).setRow (by simp) _⟩
  cases m with
  | zero =>
    have e : L.take off ++ (List.replicate 0 0 ++ L.drop (off + 0)) = L := by simp
    rw [e, setRow_self w b _ _ _ h]
    simp [Builtin.clear_, run_underlying und_uints]
  | succ m =>
    have hst := run_storeCells_at Try.prog b off 62 (u64s (List.replicate (m + 1) 0)) 0 (u64s L).toArray w h (by simp [u64s_length]; omega) (u64s_one _)
    have hz : (Builtin.zeroCells #[Value.int .u64 0] (m + 1)).toList = u64s (List.replicate (m + 1) 0) := by
      rw [u64s_zeros]
      simp [Builtin.zeroCells, Nat.mod_one]
      refine List.ext_getElem (by simp) fun j h1 h2 => ?_
      simp
    simp only [Nat.add_zero, List.toList_toArray, u64s_take, u64s_drop, u64s_length, List.length_replicate, ← u64s_append, List.append_assoc] at hst
    simp [Builtin.clear_, run_underlying und_uints, zeroValue, typeInfo, hi, hz0, Value.cells, hz, hst]

/-- copy(xs[off:..], ys[os:..]) between two rows, or within one. -/
theorem run_copy_words {w : World} {b s : Nat} {L M : List Nat} (h : Row w b L) (hs : Row w s M) (off os dLen dCap sLen sCap m : Nat) (hmin : m = Nat.min sLen dLen) (hm : off + m ≤ L.length) (hsm : os + m ≤ M.length) :
    ∃ w1, (∀ ty, (Builtin.copy_ #[89, 89] ty #[.slice (some ⟨b, off, none⟩) dLen dCap, .slice (some ⟨s, os, none⟩) sLen sCap]).run Try.prog w = .ok (.int .i64 (m : Int)) w1) ∧
      Row w1 b (L.take off ++ ((M.drop os).take m ++ L.drop (off + m))) ∧ Keeps [b] w w1 := by
  refine ⟨w.setRow b (u64s (L.take off ++ ((M.drop os).take m ++ L.drop (off + m)))).toArray, fun ty => ?_, h.setRow _, (Keeps.refl _ _).setRow (by simp) _⟩
  have hlen : ((M.drop os).take m).length = m := by simp; omega
  have := run_copy_row Try.prog w 89 89 ty 62 b off dLen dCap ⟨s, os, none⟩ sLen sCap (u64s L).toArray 62 (u64s ((M.drop os).take m)) und_uints size_uint h (by rw [u64s_length, hlen, hmin]) (fun j v hj => ?_) (by simp [u64s_length]; omega) (u64s_one _)
  · rw [this]
    simp only [u64s_length, hlen, goInt, List.toList_toArray, u64s_take, u64s_drop, ← u64s_append, List.append_assoc]
  · have hjm : j < m := by
      have := (List.getElem?_eq_some_iff.1 hj).1
      rw [u64s_length, hlen] at this; exact this
    have hadd : (⟨s, os, none⟩ : Addr).add j = ⟨s, os + j, none⟩ := by unfold Addr.add; split <;> simp_all
    rw [hadd, hs.cell (os + j) (by omega)]
    simp only [u64s, List.getElem?_map, List.getElem?_take, List.getElem?_drop] at hj
    rw [if_pos hjm, List.getElem?_eq_getElem (by omega)] at hj
    exact hj

theorem made_zeros (c : Nat) : madeCells #[Value.int IntKind.u64 0] c = (List.replicate c (Value.int IntKind.u64 0)).toArray := by
  apply Array.ext
  · simp [madeCells]
  · intro j h1 h2
    simp [madeCells, Nat.mod_one]

/-- make([]uint, l, c). -/
theorem run_make_words (w : World) (l c : Nat) (hlc : l ≤ c) (hc : c ≤ 100000) :
    ∃ w1, (Instr.makeSlice 89 (.int .i64 (l : Int)) (.int .i64 (c : Int))).run Try.prog w = .ok (.slice (some ⟨w.heap.size, 0, none⟩) l c) w1 ∧ Row w1 w.heap.size (List.replicate c 0) ∧ Keeps [] w w1 ∧ w1.heap.size = w.heap.size + 1 := by
  obtain ⟨i, hi, hz0, hz1, hz2⟩ := info_parts info_uint
  have hr := run_make (P := Try.prog) w 89 62 i (.int .u64 0) und_uints hi hz0 .i64 .i64 (l : Int) (c : Int) (by omega) (by omega) (by rw [hz2]; omega) (by omega)
  simp only [Int.toNat_natCast, hz1, Nat.mul_one] at hr
  refine ⟨_, hr, ?_, (Keeps.refl _ _).alloc _, by simp⟩
  unfold Row
  show (w.heap.push _)[w.heap.size]? = _
  rw [Array.getElem?_push, if_pos rfl, u64s_zeros]
  rw [show (Value.int IntKind.u64 0).cells = #[Value.int IntKind.u64 0] from rfl, made_zeros]

end Go.Proofs.Ytnfjmngchapdnaa

/- bigmod: NewNat, reset, expand, set, trim. -/
namespace Go.Proofs.Ytnfjmngchapdnaa
open Go.RowKit

theorem Row.new (w : World) (L : List Nat) : Row (w.alloc (.cells (u64s L).toArray 62)) w.heap.size L := by
  unfold Row
  show (w.heap.push _)[w.heap.size]? = _
  rw [Array.getElem?_push, if_pos rfl]
theorem Hdr.new (w : World) (lb n c : Nat) : Hdr (w.alloc (.cells #[.slice (some ⟨lb, 0, none⟩) n c] 91)) w.heap.size lb n c := by
  unfold Hdr
  show (w.heap.push _)[w.heap.size]? = _
  rw [Array.getElem?_push, if_pos rfl]
theorem Hdr.drew {w : World} {p lb n c : Nat} (h : Hdr w p lb n c) : Hdr w.drew p lb n c := h
theorem NatV.drew {w : World} {p lb n c v : Nat} (h : NatV w p lb n c v) : NatV w.drew p lb n c v := ⟨h.hdr, h.row⟩

set_option maxRecDepth 100000 in
set_option maxHeartbeats 1000000 in
theorem newNat_any (w : World) : Calls Try.prog 39 #[] w fun e w' =>
    ∃ p lb : Nat, e = .returned (.pointer (some ⟨p, 0, none⟩)) ∧ NatV w' p lb 0 32 0 ∧ w.heap.size ≤ p ∧ w.heap.size ≤ lb ∧ Keeps [] w w' := by
  obtain ⟨w1, hm, hr, hk, hs⟩ := run_make_words w 0 32 (by omega) (by omega)
  have hm' : ((Instr.makeSlice 89 (.int .i64 0) (.int .i64 32)).run Try.prog w) = .ok (.slice (some ⟨w.heap.size, 0, none⟩) 0 32) w1 := hm
  clear hm
  have Hs := Lib.hid hs
  clear hs
  go_enter Try.func39, Try.ntmps39
  go_wp2
  go_ret
  refine ⟨w1.heap.size, w.heap.size, rfl, ⟨Hdr.new w1 _ _ _, [], List.replicate 32 0, hr.alloc _, rfl, by simp, Lt.nil, rfl⟩, hk.size, Nat.le_refl _, hk.alloc _⟩

theorem reset_rows (L J : List Nat) (n k c m : Nat) (hn : L.length = n) (hc : L.length + J.length = c) (hk : k ≤ c) (hm : m = max n k) :
    ∃ J', (L ++ J).take 0 ++ (List.replicate m 0 ++ (L ++ J).drop (0 + m)) = List.replicate k 0 ++ J' ∧ k + J'.length = c := by
  refine ⟨List.replicate (m - k) 0 ++ (L ++ J).drop m, ?_, by simp; omega⟩
  have e : List.replicate m 0 = List.replicate k 0 ++ List.replicate (m - k) 0 := by rw [List.replicate_append_replicate, show k + (m - k) = m by omega]
  rw [e]
  simp only [List.take_zero, List.nil_append, Nat.zero_add, List.append_assoc]

set_option maxRecDepth 100000 in
set_option maxHeartbeats 1000000 in
theorem nat_reset (p lb n c v k : Nat) (w : World) (hx : NatV w p lb n c v) (hk : k ≤ c) (hc : c ≤ 1000) :
    Calls Try.prog 65 #[.pointer (some ⟨p, 0, none⟩), .int .i64 (k : Int)] w fun e w' =>
      e = .returned (.pointer (some ⟨p, 0, none⟩)) ∧ NatV w' p lb k c 0 ∧ Keeps [p, lb] w w' := by
  have h1 := hx.hdr.cell
  have g1 := hx.le
  have hne' := hx.ne
  obtain ⟨hh, L, J, hL1, hL2, hL3, hL4, hL5⟩ := hx
  have HH := Lib.hid hh
  obtain ⟨m, hm⟩ : ∃ m, m = max n k := ⟨_, rfl⟩
  obtain ⟨J', hJ, hJ'⟩ := reset_rows L J n k c m hL2 hL3 hk hm
  obtain ⟨w1, hcl, hr1, hk1⟩ := run_clear_row hL1.drew 0 m c (by simp; omega) (by omega)
  rw [hJ] at hr1
  have c1 := (hh.drew.keeps hk1 (by simpa using hne')).cell
  have f1 := (hh.drew.keeps hk1 (by simpa using hne')).free
  have hmc : m ≤ c := by omega
  have h2 : n ≤ m := by omega
  have h3 : k ≤ m := by omega
  have hfin : NatV (w1.setCell ⟨p, 0, none⟩ (.slice (some ⟨lb, 0, none⟩) k c)) p lb k c 0 :=
    ⟨(hh.drew.keeps hk1 (by simpa using hne')).set _ _ _, List.replicate k 0, J', hr1.other (a := ⟨p, 0, none⟩) (Ne.symm hne') _, by simp, by simpa using hJ', Lt.replicate k, val_replicate k⟩
  have hkp : Keeps [p, lb] w (w1.setCell ⟨p, 0, none⟩ (.slice (some ⟨lb, 0, none⟩) k c)) :=
    (((Keeps.refl _ w).drew.trans hk1 (by simp)).setCell (p := ⟨p, 0, none⟩) (by simp) _)
  have Hfin := Lib.hid hfin
  clear hfin hJ hJ' hL2 hL3 hL4 hL5 hr1 hh
  have hmx : (if k < n then (n : Int) else (k : Int)) = (m : Int) := by split <;> omega
  clear hm
  go_enter Try.func65, Try.ntmps65
  go_wp2
  refine wp_region_txt [0,0,0,1,0,0,0,0,1,0,0,0,2] (fun _ => True) (by kernel_rfl) (by kernel_rfl) trivial ?_
  simp only [withMarks]
  repeat (first
    | ((with_reducible refine txt_v (v := ?_) ?_ ?_); (any_goals ((with_reducible refine Yl.mk ?_ ?_); rfl; intro w hSw; (go_simp <;> (try go_bits) <;> (repeat (first | rw [if_pos (by omega)] | rw [if_neg (by omega)])) <;> with_reducible rfl))); try simp only [Act.put, List.setIfInBounds_toArray, List.set_cons_zero, List.set_cons_succ])
    | ((with_reducible refine txt_u ?_ ?_); rfl; try simp only [Act.put, List.setIfInBounds_toArray, List.set_cons_zero, List.set_cons_succ])
    | ((with_reducible refine txt_l (v := ?_) ?_ ?_); (any_goals ((with_reducible refine Reads.mk ?_ ?_); rfl; (go_simp <;> (try go_bits) <;> (repeat (first | rw [if_pos (by omega)] | rw [if_neg (by omega)])) <;> with_reducible rfl))); try simp only [Act.put, List.setIfInBounds_toArray, List.set_cons_zero, List.set_cons_succ])
    | ((with_reducible refine txt_e ?_ ?_); rfl; intro K hK; go_simp; (first | (refine hK _ _ trivial ?_) | ((first | fail); dsimp only; refine hK _ _ trivial ?_)); clear hK K; try simp only [Act.put, List.setIfInBounds_toArray, List.set_cons_zero, List.set_cons_succ]))
  refine txt_nil ?_
  go_wp2
  go_ret
  exact ⟨rfl, Hfin.out, hkp⟩

set_option maxRecDepth 100000 in
set_option maxHeartbeats 1000000 in
theorem nat_expand (p lb n c v k : Nat) (w : World) (hx : NatV w p lb n c v) (hnk : n ≤ k) (hk : k ≤ c) (hnc : n < c) (hc : c ≤ 1000) :
    Calls Try.prog 78 #[.pointer (some ⟨p, 0, none⟩), .int .i64 (k : Int)] w fun e w' =>
      e = .returned (.pointer (some ⟨p, 0, none⟩)) ∧ NatV w' p lb k c v ∧ Keeps [p, lb] w w' := by
  have h1 := hx.hdr.cell
  have hne' := hx.ne
  obtain ⟨hh, L, J, hL1, hL2, hL3, hL4, hL5⟩ := hx
  obtain ⟨w1, hcl, hr1, hk1⟩ := run_clear_row hL1.drew n (k - n) (c - n) (by simp; omega) (by omega)
  have c1 := (hh.drew.keeps hk1 (by simpa using hne')).cell
  have f1 := (hh.drew.keeps hk1 (by simpa using hne')).free
  have hrow : (L ++ J).take n ++ (List.replicate (k - n) 0 ++ (L ++ J).drop (n + (k - n))) = (L ++ List.replicate (k - n) 0) ++ J.drop (k - n) := by
    rw [List.take_left' hL2, List.drop_append, List.drop_of_length_le (by omega)]
    simp
    congr 1
    omega
  rw [hrow] at hr1
  have hfin : NatV (w1.setCell ⟨p, 0, none⟩ (.slice (some ⟨lb, 0, none⟩) k c)) p lb k c v :=
    ⟨(hh.drew.keeps hk1 (by simpa using hne')).set _ _ _, L ++ List.replicate (k - n) 0, J.drop (k - n), hr1.other (a := ⟨p, 0, none⟩) (Ne.symm hne') _, by simp; omega, by simp; omega, hL4.append (Lt.replicate _), by rw [val_append, val_replicate, hL5]; simp⟩
  have hkp : Keeps [p, lb] w (w1.setCell ⟨p, 0, none⟩ (.slice (some ⟨lb, 0, none⟩) k c)) :=
    (((Keeps.refl _ w).drew.trans hk1 (by simp)).setCell (p := ⟨p, 0, none⟩) (by simp) _)
  have Hfin := Lib.hid hfin
  clear hfin hrow hL2 hL3 hL4 hL5 hr1 hh
  have e1 : ¬ ((c : Nat) = n) := by omega
  have e2 : ¬ (n : Int) = (c : Int) := by omega
  go_enter Try.func78, Try.ntmps78
  go_wp2
  refine wp_region_txt [0,0,0,1,0,0,0,1,0,0,0,0] (fun _ => True) (by kernel_rfl) (by kernel_rfl) trivial ?_
  simp only [withMarks]
  repeat (first
    | ((with_reducible refine txt_v (v := ?_) ?_ ?_); (any_goals ((with_reducible refine Yl.mk ?_ ?_); rfl; intro w hSw; (go_simp <;> (try go_bits) <;> (repeat (first | rw [if_pos (by omega)] | rw [if_neg (by omega)])) <;> with_reducible rfl))); try simp only [Act.put, List.setIfInBounds_toArray, List.set_cons_zero, List.set_cons_succ])
    | ((with_reducible refine txt_u ?_ ?_); rfl; try simp only [Act.put, List.setIfInBounds_toArray, List.set_cons_zero, List.set_cons_succ])
    | ((with_reducible refine txt_l (v := ?_) ?_ ?_); (any_goals ((with_reducible refine Reads.mk ?_ ?_); rfl; (go_simp <;> (try go_bits) <;> (repeat (first | rw [if_pos (by omega)] | rw [if_neg (by omega)])) <;> with_reducible rfl))); try simp only [Act.put, List.setIfInBounds_toArray, List.set_cons_zero, List.set_cons_succ])
    | ((with_reducible refine txt_e ?_ ?_); rfl; intro K hK; go_simp; (first | (refine hK _ _ trivial ?_) | ((first | fail); dsimp only; refine hK _ _ trivial ?_)); clear hK K; try simp only [Act.put, List.setIfInBounds_toArray, List.set_cons_zero, List.set_cons_succ]))
  refine txt_nil ?_
  go_wp2
  go_ret
  exact ⟨rfl, Hfin.out, hkp⟩

set_option maxRecDepth 100000 in
set_option maxHeartbeats 1000000 in
theorem nat_set (p lb q lc n m c c' v u : Nat) (w : World) (hx : NatV w p lb n c v) (hy : NatV w q lc m c' u) (hm : m ≤ c) (hc : c ≤ 1000)
    (h1 : q ≠ p) (h2 : q ≠ lb) (h3 : lc ≠ p) (h4 : lc ≠ lb) :
    Calls Try.prog 43 #[.pointer (some ⟨p, 0, none⟩), .pointer (some ⟨q, 0, none⟩)] w fun e w' =>
      e = .returned (.pointer (some ⟨p, 0, none⟩)) ∧ NatV w' p lb m c u ∧ Keeps [p, lb] w w' := by
  have c1 := hy.hdr.cell
  have g1 := hy.le
  go_enter Try.func43, Try.ntmps43
  go_wp2_with fail
  refine (nat_reset p lb n c v m w hx hm hc).mono ?_
  rintro e w1 ⟨rfl, hx1, hk1⟩
  have hy1 := hy.keeps hk1 (by simp [h1, h2]) (by simp [h3, h4])
  clear c1 hx hy
  have c1 := hx1.hdr.cell
  have c2 := hy1.hdr.cell
  have hne' := hx1.ne
  obtain ⟨hh, L, J, hL1, hL2, hL3, hL4, hL5⟩ := hx1
  obtain ⟨_, M, I, hM1, hM2, hM3, hM4, hM5⟩ := hy1
  obtain ⟨w2, hcp, hr2, hk2⟩ := run_copy_words hL1.drew hM1.drew 0 0 m c m c' m (by simp [Nat.min_def]) (by simp; omega) (by simp; omega)
  have hfin : NatV w2 p lb m c u := by
    refine ⟨hh.drew.keeps hk2 (by simpa using hne'), M, J, ?_, hM2, by omega, hM4, hM5⟩
    have e1 : ((M ++ I).drop 0).take m = M := by rw [List.drop_zero, List.take_left' hM2]
    have e2 : (L ++ J).drop (0 + m) = J := by rw [Nat.zero_add, List.drop_left' hL2]
    rw [e1, e2, List.take_zero, List.nil_append] at hr2
    exact hr2
  have hkp : Keeps [p, lb] w w2 := hk1.drew.trans hk2 (by simp)
  have Hfin := Lib.hid hfin
  clear hfin hL2 hL3 hL4 hL5 hM2 hM3 hM4 hM5 hr2
  go_wp2
  refine wp_region_txt [0,0,0,1,0,0,0,1,2] (fun _ => True) (by kernel_rfl) (by kernel_rfl) trivial ?_
  simp only [withMarks]
  repeat (first
    | ((with_reducible refine txt_v (v := ?_) ?_ ?_); (any_goals ((with_reducible refine Yl.mk ?_ ?_); rfl; intro w hSw; (go_simp <;> (try go_bits) <;> (repeat (first | rw [if_pos (by omega)] | rw [if_neg (by omega)])) <;> with_reducible rfl))); try simp only [Act.put, List.setIfInBounds_toArray, List.set_cons_zero, List.set_cons_succ])
    | ((with_reducible refine txt_u ?_ ?_); rfl; try simp only [Act.put, List.setIfInBounds_toArray, List.set_cons_zero, List.set_cons_succ])
    | ((with_reducible refine txt_l (v := ?_) ?_ ?_); (any_goals ((with_reducible refine Reads.mk ?_ ?_); rfl; (go_simp <;> (try go_bits) <;> (repeat (first | rw [if_pos (by omega)] | rw [if_neg (by omega)])) <;> with_reducible rfl))); try simp only [Act.put, List.setIfInBounds_toArray, List.set_cons_zero, List.set_cons_succ])
    | ((with_reducible refine txt_e ?_ ?_); rfl; intro K hK; go_simp; (first | (refine hK _ _ trivial ?_) | ((first | fail); dsimp only; refine hK _ _ trivial ?_)); clear hK K; try simp only [Act.put, List.setIfInBounds_toArray, List.set_cons_zero, List.set_cons_succ]))
  refine txt_nil ?_
  go_wp2
  go_ret
  exact ⟨rfl, Hfin.out, hkp⟩

set_option maxRecDepth 100000 in
set_option maxHeartbeats 1000000 in
theorem nat_trim (p lb n c v : Nat) (w : World) (hx : NatV w p lb n c v) (hc : c ≤ 1000) :
    Calls Try.prog 66 #[.pointer (some ⟨p, 0, none⟩)] w fun e w' =>
      e = .returned (.pointer (some ⟨p, 0, none⟩)) ∧ ∃ n', n' ≤ n ∧ NatV w' p lb n' c v ∧ (n' = 0 ∨ BB ^ (n' - 1) ≤ v) ∧ Keeps [p] w w' := by
  have c1 := hx.hdr.cell
  have g1 := hx.le
  have hne' := hx.ne
  obtain ⟨hh, L, J, hL1, hL2, hL3, hL4, hL5⟩ := hx
  have KL2 := Lib.hid hL2; have KL3 := Lib.hid hL3; have KL5 := Lib.hid hL5
  clear hL2 hL3 hL5
  go_enter Try.func66, Try.ntmps66
  go_wp2
  clear c1
  go_loopw [3] (fun i wr => ∃ (k : Nat), k ≤ n ∧ i = .int .i64 ((k : Int) - 1) ∧ Hid (val (L.take k) = v) ∧ Hdr wr p lb k c ∧ Row wr lb (L ++ J) ∧ Keeps [p] w wr) (fun i _ => (intOf i + 1).toNat)
  case atStart => exact ⟨n, Nat.le_refl _, rfl, by show _ = _; rw [List.take_of_length_le (by have := KL2.out; omega), KL5.out], hh, hL1, Keeps.refl _ _⟩
  case round =>
    obtain ⟨k, hk, rfl, hv, hd, hr, hkp⟩ := hrel
    have hend : Hid ((k = 0 ∨ BB ^ (k - 1) ≤ v) → (∃ n', n' ≤ n ∧ NatV wr p lb n' c v ∧ (n' = 0 ∨ BB ^ (n' - 1) ≤ v) ∧ Keeps [p] w wr)) := fun ht =>
      ⟨k, hk, ⟨hd, L.take k, L.drop k ++ J, by rw [← List.append_assoc, List.take_append_drop]; exact hr, by have := KL2.out; simp; omega, by have := KL2.out; have := KL3.out; simp; omega, hL4.take k, hv.out⟩, ht, hkp⟩
    cases k with
    | zero =>
      have hc' : ¬ (0 : Int) ≤ ((0 : Nat) : Int) - 1 := by omega
      obtain ⟨n', e1, e2, e3, e4⟩ := hend.out (.inl rfl)
      have E2 := Lib.hid e2; have E3 := Lib.hid e3
      clear e2 e3 hend
      go_wp2
      go_ret
      exact ⟨rfl, n', e1, E2.out, E3.out, e4⟩
    | succ k =>
      have ek : (((k + 1 : Nat) : Int) - 1) = (k : Int) := by omega
      rw [ek]
      have hLn := KL2.out
      have c1 := hd.cell
      have c2 := hr.cell k (by simp; omega)
      have f1 := hd.free
      have b1 := hL4.get k (by omega)
      rw [List.getElem_append_left (by omega)] at c2
      obtain ⟨xk, hxk⟩ : ∃ x, L[k]'(by omega) = x := ⟨_, rfl⟩
      rw [hxk] at c2 b1
      have hs := val_take_succ L k (by omega)
      rw [hxk, hv.out] at hs
      have Hs := Lib.hid hs
      clear hxk hLn hs ek
      have hkc : k ≤ c := by omega
      by_cases h0 : xk = 0
      · subst h0
        have hz : ((0 : Int) == 0) = true := rfl
        go_wp2
        go_roundw
        case rel => exact ⟨k, by omega, rfl, by show _ = _; have := Hs.out; simp at this; exact this.symm, hd.set lb k c, hr.other (a := ⟨p, 0, none⟩) (Ne.symm hne') _, hkp.setCell (by simp) _⟩
        case measure => simp [intOf]
      · have hz : ((xk : Int) == 0) = false := by simp; omega
        have hz' : ((xk : Int) != 0) = true := by simp; omega
        obtain ⟨n', e1, e2, e3, e4⟩ := hend.out (.inr (by
          have := Hs.out
          have h6 : BB ^ k * 1 ≤ BB ^ k * xk := Nat.mul_le_mul_left _ (by omega)
          simp only [Nat.add_sub_cancel]
          omega))
        have E2 := Lib.hid e2; have E3 := Lib.hid e3
        clear e2 e3 hend
        go_wp2
        go_ret
        exact ⟨rfl, n', e1, E2.out, E3.out, e4⟩

end Go.Proofs.Ytnfjmngchapdnaa
