/- What the builtins clear, copy, make do to rows of words. -/
import Derived.Test.YtnfjmngchapdnaaCmp2
import Derived.Laws.CopyRow
import Derived.Lib.SliceRun
namespace Go.Proofs.Ytnfjmngchapdnaa
open Go.RowKit

theorem und_uints : Try.prog.underlying 89 = some (.slice 62) := by kernel_rfl
theorem info_uint : (Try.prog.info? 62).map (fun i => (i.zero, i.size, i.bytes)) = some (some (.int .u64 0), 1, 8) := by kernel_rfl
theorem size_uint : (Try.prog.info? 62).map (·.size) = some 1 := by kernel_rfl

theorem Row.setRow {w : World} {b : Nat} {L : List Nat} (h : Row w b L) (M : List Nat) : Row (w.setRow b (u64s M).toArray) b M := setRow_heap w b _ _ _ _ h
theorem Keeps.setRow {S : List Nat} {a w : World} (h : Keeps S a w) {b : Nat} (hb : b < a.heap.size → b ∈ S) (cs : Array Value) : Keeps S a (w.setRow b cs) :=
  h.trans (T := [b]) ⟨rfl, rfl, rfl, by simp [World.setRow], fun k _ hk => by
    simp only [World.setRow, Array.getElem?_modify]
    rw [if_neg (by intro e; exact hk (by simp [e]))]⟩ fun x hx => by simp at hx; subst hx; exact hb

theorem u64s_append (L M : List Nat) : u64s (L ++ M) = u64s L ++ u64s M := by simp [u64s]
theorem u64s_take (L : List Nat) (n : Nat) : (u64s L).take n = u64s (L.take n) := by simp [u64s, List.map_take]
theorem u64s_drop (L : List Nat) (n : Nat) : (u64s L).drop n = u64s (L.drop n) := by simp [u64s, List.map_drop]
theorem u64s_length (L : List Nat) : (u64s L).length = L.length := by simp [u64s]
theorem u64s_one (L : List Nat) : ∀ v ∈ u64s L, v.oneCell' = true := by
  intro v hv
  obtain ⟨x, _, rfl⟩ := List.mem_map.1 hv
  rfl
theorem u64s_zeros (m : Nat) : u64s (List.replicate m 0) = List.replicate m (.int .u64 0) := by simp [u64s]

/-- clear(xs[off:off+m]). -/
theorem run_clear_row {w : World} {b : Nat} {L : List Nat} (h : Row w b L) (off m c : Nat) (hm : off + m ≤ L.length) (hc : m ≤ c) :
    ∃ w1, (∀ ty, (Builtin.clear_ #[89] ty #[.slice (some ⟨b, off, none⟩) m c]).run Try.prog w = .ok (.tuple #[]) w1) ∧ Row w1 b (L.take off ++ (List.replicate m 0 ++ L.drop (off + m))) ∧ Keeps [b] w w1 := by
  obtain ⟨i, hi, hz0, hz1, hz2⟩ := info_parts info_uint
  refine ⟨w.setRow b (u64s (L.take off ++ (List.replicate m 0 ++ L.drop (off + m)))).toArray, fun ty => ?_, h.setRow _, (Keeps.refl _ _).setRow (by simp) _⟩
  cases m with
  | zero =>
    have e : L.take off ++ (List.replicate 0 0 ++ L.drop (off + 0)) = L := by simp
    rw [e, setRow_self w b _ _ _ h]
    simp [Builtin.clear_, run_underlying und_uints]
  | succ m =>
    have hst := run_storeCells_at Try.prog b off 62 (u64s (List.replicate (m + 1) 0)) 0 (u64s L).toArray w h (by simp [u64s_length]; omega) (u64s_one _)
    have hz : (Builtin.zeroCells #[Value.int .u64 0] (m + 1)).toList = u64s (List.replicate (m + 1) 0) := by
      rw [u64s_zeros]
      simp [Builtin.zeroCells, Nat.mod_one]
      refine List.ext_getElem (by simp) fun j h1 h2 => ?_
      simp
    simp only [Nat.add_zero, List.toList_toArray, u64s_take, u64s_drop, u64s_length, List.length_replicate, ← u64s_append, List.append_assoc] at hst
    simp [Builtin.clear_, run_underlying und_uints, zeroValue, typeInfo, hi, hz0, Value.cells, hz, hst]

/-- copy(xs[off:..], ys[os:..]) between two rows, or within one. -/
theorem run_copy_words {w : World} {b s : Nat} {L M : List Nat} (h : Row w b L) (hs : Row w s M) (off os dLen dCap sLen sCap m : Nat) (hmin : m = Nat.min sLen dLen) (hm : off + m ≤ L.length) (hsm : os + m ≤ M.length) :
    ∃ w1, (∀ ty, (Builtin.copy_ #[89, 89] ty #[.slice (some ⟨b, off, none⟩) dLen dCap, .slice (some ⟨s, os, none⟩) sLen sCap]).run Try.prog w = .ok (.int .i64 (m : Int)) w1) ∧
      Row w1 b (L.take off ++ ((M.drop os).take m ++ L.drop (off + m))) ∧ Keeps [b] w w1 := by
  refine ⟨w.setRow b (u64s (L.take off ++ ((M.drop os).take m ++ L.drop (off + m)))).toArray, fun ty => ?_, h.setRow _, (Keeps.refl _ _).setRow (by simp) _⟩
  have hlen : ((M.drop os).take m).length = m := by simp; omega
  have := run_copy_row Try.prog w 89 89 ty 62 b off dLen dCap ⟨s, os, none⟩ sLen sCap (u64s L).toArray 62 (u64s ((M.drop os).take m)) und_uints size_uint h (by rw [u64s_length, hlen, hmin]) (fun j v hj => ?_) (by simp [u64s_length]; omega) (u64s_one _)
  · rw [this]
    simp only [u64s_length, hlen, goInt, List.toList_toArray, u64s_take, u64s_drop, ← u64s_append, List.append_assoc]
  · have hjm : j < m := by
      have := (List.getElem?_eq_some_iff.1 hj).1
      rw [u64s_length, hlen] at this; exact this
    have hadd : (⟨s, os, none⟩ : Addr).add j = ⟨s, os + j, none⟩ := by unfold Addr.add; split <;> simp_all
    rw [hadd, hs.cell (os + j) (by omega)]
    simp only [u64s, List.getElem?_map, List.getElem?_take, List.getElem?_drop] at hj
    rw [if_pos hjm, List.getElem?_eq_getElem (by omega)] at hj
    exact hj

theorem made_zeros (c : Nat) : madeCells #[Value.int IntKind.u64 0] c = (List.replicate c (Value.int IntKind.u64 0)).toArray := by
  apply Array.ext
  · simp [madeCells]
  · intro j h1 h2
    simp [madeCells, Nat.mod_one]

/-- make([]uint, l, c). -/
theorem run_make_words (w : World) (l c : Nat) (hlc : l ≤ c) (hc : c ≤ 100000) :
    ∃ w1, (Instr.makeSlice 89 (.int .i64 (l : Int)) (.int .i64 (c : Int))).run Try.prog w = .ok (.slice (some ⟨w.heap.size, 0, none⟩) l c) w1 ∧ Row w1 w.heap.size (List.replicate c 0) ∧ Keeps [] w w1 ∧ w1.heap.size = w.heap.size + 1 := by
  obtain ⟨i, hi, hz0, hz1, hz2⟩ := info_parts info_uint
  have hr := run_make (P := Try.prog) w 89 62 i (.int .u64 0) und_uints hi hz0 .i64 .i64 (l : Int) (c : Int) (by omega) (by omega) (by rw [hz2]; omega) (by omega)
  simp only [Int.toNat_natCast, hz1, Nat.mul_one] at hr
  refine ⟨_, hr, ?_, (Keeps.refl _ _).alloc _, by simp⟩
  unfold Row
  show (w.heap.push _)[w.heap.size]? = _
  rw [Array.getElem?_push, if_pos rfl, u64s_zeros]
  rw [show (Value.int IntKind.u64 0).cells = #[Value.int IntKind.u64 0] from rfl, made_zeros]

end Go.Proofs.Ytnfjmngchapdnaa
