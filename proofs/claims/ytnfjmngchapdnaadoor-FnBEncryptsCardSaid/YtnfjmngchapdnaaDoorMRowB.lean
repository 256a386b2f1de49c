import Derived.Test.YtnfjmngchapdnaaDoorMNatBytes
import Derived.Laws.CopyRow
import Derived.Laws.IdiomCopy
/- Rows of bytes; copy. -/
namespace Go.Proofs.YtnfjmngchapdnaaDoor
open Go.RowKit

/-- Block b is a row of bytes. -/
def RowB (w : World) (b : Nat) (L : List Nat) : Prop := w.heap[b]? = some (.cells (u8s L).toArray 5 (0, 0))
theorem RowB.lt {w : World} {b : Nat} {L : List Nat} (h : RowB w b L) : b < w.heap.size := lt_of_block h
theorem RowB.keeps {S : List Nat} {w w' : World} {b : Nat} {L : List Nat} (h : RowB w b L) (hk : Keeps S w w') (hb : b ∉ S) : RowB w' b L := blk_keeps h hk hb
theorem RowB.kept {w w' : World} {b : Nat} {L : List Nat} (h : RowB w b L) (hk : Keeps [] w w') : RowB w' b L := h.keeps hk (by simp)
theorem RowB.drew {w : World} {b : Nat} {L : List Nat} (h : RowB w b L) : RowB w.drew b L := h
theorem RowB.cell {w : World} {b : Nat} {L : List Nat} (h : RowB w b L) {i x : Nat} (hx : L[i]? = some x) : w.cell? ⟨b, i, none⟩ = some (.int .u8 (x : Int)) := by
  rw [cell_of_row w b _ _ _ _ h]
  simp [u8s, hx]
theorem RowB.free {w : World} {b : Nat} {L : List Nat} (h : RowB w b L) (i : Nat) : w.frozen? ⟨b, i, none⟩ = false := by
  unfold RowB at h
  simp [World.frozen?, h]
theorem RowB.set {w : World} {b : Nat} {L : List Nat} (h : RowB w b L) (i x : Nat) : RowB (w.setCell ⟨b, i, none⟩ (.int .u8 (x : Int))) b (L.set i x) := by
  have hlt := h.lt
  unfold RowB at *
  have h' : w.heap[b] = .cells (u8s L).toArray 5 (0, 0) := by simpa [Array.getElem?_eq_getElem hlt] using h
  show (w.heap.modify b _)[b]? = _
  rw [Array.getElem?_eq_getElem (by simpa using hlt), Array.getElem_modify_self, h']
  simp [u8s, List.map_set]
theorem RowB.setRow {w : World} {b : Nat} {L : List Nat} (h : RowB w b L) (M : List Nat) : RowB (w.setRow b (u8s M).toArray) b M := by
  unfold RowB at *
  exact setRow_heap w b _ _ _ _ h
theorem RowB.slB {w : World} {b : Nat} {L : List Nat} (h : RowB w b L) (hl : LtB L) {n c : Nat} (hn : L.length = n) (hc : n ≤ c) : SlB w (some ⟨b, 0, none⟩) n c L :=
  ⟨hn, hc, hl, fun _ => ⟨b, 0, rfl, h.lt, fun i hi => by rw [Nat.zero_add]; exact h.cell (List.getElem?_eq_getElem hi)⟩⟩
theorem size_byte : (Tryd.prog.info? 5).map (·.size) = some 1 := by kernel_rfl
theorem u8s_one (L : List Nat) : ∀ v, v ∈ u8s L → v.oneCell' = true := by
  intro v hv
  obtain ⟨x, _, rfl⟩ := List.mem_map.1 hv
  rfl

/-- copy(xs[off:], src). -/
theorem run_copy_bytes {w : World} {b : Nat} {L M : List Nat} (h : RowB w b L) (s os off dLen dCap sLen sCap m : Nat) (hmin : m = Nat.min sLen dLen) (hM : M.length = m) (hm : off + m ≤ L.length) (hsrc : BAt w s os M) :
    ∃ w1, (∀ ty, (Builtin.copy_ #[22, 22] ty #[.slice (some ⟨b, off, none⟩) dLen dCap, .slice (some ⟨s, os, none⟩) sLen sCap]).run Tryd.prog w = .ok (.int .i64 (m : Int)) w1) ∧
      RowB w1 b (L.take off ++ (M ++ L.drop (off + m))) ∧ Keeps [b] w w1 := by
  refine ⟨w.setRow b (u8s (L.take off ++ (M ++ L.drop (off + m)))).toArray, fun ty => ?_, h.setRow _, (Keeps.refl _ _).setRow (by simp) _⟩
  have hlen : (u8s M).length = m := by simp [u8s, hM]
  have hL : (u8s L).length = L.length := by simp [u8s]
  have := run_copy_row Tryd.prog w 22 22 ty 5 b off dLen dCap ⟨s, os, none⟩ sLen sCap (u8s L).toArray 5 (u8s M) und_bytes size_byte h (by rw [hlen, hmin]) (fun j v hj => ?_) (by rw [hlen]; simp [hL]; omega) (u8s_one _)
  · have e : (u8s L).toArray.toList.take off ++ u8s M ++ (u8s L).toArray.toList.drop (off + m) = u8s (L.take off ++ (M ++ L.drop (off + m))) := by simp [u8s, List.map_take, List.map_drop]
    rw [this, hlen, e]
    rfl
  · have hjm : j < M.length := by
      have := (List.getElem?_eq_some_iff.1 hj).1
      rw [hlen] at this; omega
    have hadd : (⟨s, os, none⟩ : Addr).add j = ⟨s, os + j, none⟩ := by unfold Addr.add; split <;> simp_all
    rw [hadd, hsrc j hjm]
    simp only [u8s, List.getElem?_map] at hj
    rw [List.getElem?_eq_getElem hjm] at hj
    exact hj

theorem block_set {w : World} {g : Nat} {cs : Array Value} {t : TypeId} {fr : Nat × Nat} (h : w.heap[g]? = some (.cells cs t fr)) (j : Nat) (v : Value) : (w.setCell ⟨g, j, none⟩ v).heap[g]? = some (.cells (cs.setIfInBounds j v) t fr) := by
  rw [setCell_eq_setRow w g j cs t fr v h]
  exact setRow_heap w g _ _ _ _ h
/-- make([]byte, S). -/
theorem run_make_bytes (w : World) (S : Nat) (hS : S ≤ 100000) :
    ∃ wm, (Instr.makeSlice 22 (.int .i64 (S : Int)) (.int .i64 (S : Int))).run Tryd.prog w = .ok (.slice (some ⟨w.heap.size, 0, none⟩) S S) wm ∧ RowB wm w.heap.size (List.replicate S 0) ∧ Keeps [] w wm := by
  obtain ⟨i0, hi, hz0, hz1, hz2⟩ := info_parts info_byte
  obtain ⟨wm, hmk, hown, hgr⟩ := run_make_full (P := Tryd.prog) w w.heap.size 22 5 i0 (.int .u8 0) 1 und_bytes hi hz0 hz1 .i64 .i64 S (by rw [hz2]; omega) (by unfold maxLen; omega) (Nat.le_refl _)
  refine ⟨wm, hmk, ?_, (Keeps.refl [] w).grown hgr (by simp)⟩
  rcases hown.2 with ⟨h, _⟩ | ⟨g, cap, cur, h, _, hc, _, _, hcs, htk⟩
  · simp at h
  · simp only [Value.slice.injEq, Option.some.injEq, Addr.mk.injEq, and_true, true_and] at h
    obtain ⟨rfl, rfl⟩ := h
    rw [Nat.mul_one] at hcs
    have e : cur = (u8s (List.replicate S 0)).toArray := by
      apply Array.ext'
      have h1 : cur.toList.take (S * 1) = cur.toList := List.take_of_length_le (by simp [hcs])
      rw [h1] at htk
      rw [htk, Nat.mul_one]
      show (madeCells #[Value.int .u8 0] S).toList = _
      rw [toList_madeCells_one]; simp [u8s]
    unfold RowB
    rw [hc, e]

end Go.Proofs.YtnfjmngchapdnaaDoor
