import Derived.Test.YtnfjmngchapdnaaDoorMSpec2
import Derived.Test.YtnfjmngchapdnaaDoorMNonZero
import Derived.Lib.ConvBytes
/- A row of bytes that a string was turned into. -/
namespace Go.Proofs.YtnfjmngchapdnaaDoor
open Go.RowKit

/-- Block b holds the bytes L, something behind them, and the mark of a string's row. -/
def RowM (w : World) (b : Nat) (L : List Nat) : Prop := ∃ J : List Nat, w.heap[b]? = some (.cells (u8s (L ++ J)).toArray 5 ((L ++ J).length, (L ++ J).length + 1))
theorem RowM.lt {w : World} {b : Nat} {L : List Nat} (h : RowM w b L) : b < w.heap.size := by obtain ⟨J, h⟩ := h; exact lt_of_block h
theorem RowM.kept {w w' : World} {b : Nat} {L : List Nat} (h : RowM w b L) (hk : Keeps [] w w') : RowM w' b L := by
  obtain ⟨J, h⟩ := h
  exact ⟨J, blk_keeps h hk (by simp)⟩
theorem RowM.cell {w : World} {b : Nat} {L : List Nat} (h : RowM w b L) {i x : Nat} (hx : L[i]? = some x) : w.cell? ⟨b, i, none⟩ = some (.int .u8 (x : Int)) := by
  obtain ⟨J, h⟩ := h
  have hi : i < L.length := by
    rcases Nat.lt_or_ge i L.length with h1 | h1
    · exact h1
    · rw [List.getElem?_eq_none h1] at hx; simp at hx
  rw [cell_of_row w b _ _ _ _ h]
  have e : (L ++ J)[i]? = some x := by rw [List.getElem?_append_left hi]; exact hx
  simp only [List.getElem?_toArray, u8s, List.getElem?_map, e, Option.map_some]
theorem RowM.free {w : World} {b : Nat} {L : List Nat} (h : RowM w b L) (i : Nat) (hi : i < L.length) : w.frozen? ⟨b, i, none⟩ = false := by
  obtain ⟨J, h⟩ := h
  simp [World.frozen?, h]
  omega
theorem RowM.set {w : World} {b : Nat} {L : List Nat} (h : RowM w b L) (i x : Nat) (hi : i < L.length) : RowM (w.setCell ⟨b, i, none⟩ (.int .u8 (x : Int))) b (L.set i x) := by
  obtain ⟨J, h⟩ := h
  refine ⟨J, ?_⟩
  rw [block_set h i]
  have e : (u8s (L ++ J)).toArray.setIfInBounds i (.int .u8 (x : Int)) = (u8s (L.set i x ++ J)).toArray := by
    have e2 : L.set i x ++ J = (L ++ J).set i x := by rw [List.set_append_left _ _ hi]
    rw [e2]
    simp only [List.setIfInBounds_toArray, u8s, List.map_set]
  rw [e]
  simp
theorem RowM.slB {w : World} {b : Nat} {L : List Nat} (h : RowM w b L) (hl : LtB L) {n c : Nat} (hn : L.length = n) (hc : n ≤ c) : SlB w (some ⟨b, 0, none⟩) n c L :=
  ⟨hn, hc, hl, fun _ => ⟨b, 0, rfl, h.lt, fun i hi => by rw [Nat.zero_add]; exact h.cell (List.getElem?_eq_getElem hi)⟩⟩

theorem convert_str (s : ByteArray) (w : World) : ∃ cap w', (convert 9 22 (.string s)).run Tryd.prog w = .ok (.slice (some ⟨w.heap.size, 0, none⟩) s.size cap) w' ∧ RowM w' w.heap.size (bytesOf s) ∧ s.size ≤ cap ∧ Keeps [] w w' := by
  refine ⟨_, _, Lib.run_convert_string_bytes w _ _ 5 s und_string und_bytes und_u8, ?_, grownCap_ge _ _ _ _, ?_⟩
  · refine ⟨List.replicate (grownCap w s.size 0 5 - s.size) 0, ?_⟩
    have e : (u8s (bytesOf s ++ List.replicate (grownCap w s.size 0 5 - s.size) 0)).toArray = Lib.bytesCells w 5 s := by
      unfold Lib.bytesCells
      apply Array.ext'
      simp [u8s, bytesOf]
    have hsz : (Lib.bytesCells w 5 s).size = (bytesOf s ++ List.replicate (grownCap w s.size 0 5 - s.size) 0).length := by
      rw [← e]; simp [u8s]
    rw [Lib.bytesWorld_at_new, e, hsz]
  · refine ⟨?_, ?_, ?_, by rw [Lib.bytesWorld_size]; omega, fun k hk _ => Lib.bytesWorld_at_old w _ s k hk⟩
    · simp [Lib.bytesWorld, World.freeze, World.alloc, World.drew, -World.alloc_eq, -World.drew_eq]
    · simp [Lib.bytesWorld, World.freeze, World.alloc, World.drew, -World.alloc_eq, -World.drew_eq]
    · simp [Lib.bytesWorld, World.freeze, World.alloc, World.drew, -World.alloc_eq, -World.drew_eq]
theorem bytesOf_take (s : ByteArray) (k : Nat) (hk : k ≤ s.size) : bytesOf (s.extract 0 k) = (bytesOf s).take k ∧ (s.extract 0 k).size = k := by
  constructor
  · unfold bytesOf
    simp [ByteArray.data_extract]
  · simp
    omega
theorem bytesOf_append (s t : ByteArray) : bytesOf (s ++ t) = bytesOf s ++ bytesOf t := by
  unfold bytesOf
  simp

theorem bytesOf_inj {s t : ByteArray} (h : bytesOf s = bytesOf t) : s = t := by
  unfold bytesOf at h
  have h2 : s.data.toList = t.data.toList := by
    refine (List.map_inj_right (f := UInt8.toNat) fun x y hxy => UInt8.toNat_inj.1 hxy).1 h
  have h3 : s.data = t.data := Array.toList_inj.1 h2
  cases s; cases t
  simp at h3
  rw [h3]
theorem convert_the {w' : World} {a : Option Addr} {m c : Nat} {L : List Nat} {s : ByteArray} (h : SlB w' a m c L) (hs : bytesOf s = L) : (convert 22 9 (.slice a m c)).run Tryd.prog w' = .ok (.string s) w' := by
  obtain ⟨s', h1, h2, _⟩ := convert_bytes h
  rw [h1, bytesOf_inj (h2.trans hs.symm)]

theorem N32.new1 (w : World) (x : Nat) (hx : x < W32) : N32 (w.alloc (.cells #[.int .u32 (x : Int)] 52)) (some ⟨w.heap.size, 0, none⟩) 1 1 [x] := by
  refine ⟨rfl, Nat.le_refl _, fun y hy => by simp at hy; rw [hy]; exact hx, fun _ => ⟨_, _, rfl, by simp, fun i hi => ?_⟩⟩
  have hi0 : i = 0 := by simp at hi; omega
  subst hi0
  rw [Nat.zero_add, alloc_cell]; rfl
theorem fits_width {x N : Nat} (h : x < N) : x < 256 ^ ((blen N + 7) / 8) := by
  have h1 := lt_blen N
  have h2 : (2 : Nat) ^ blen N ≤ 2 ^ (8 * ((blen N + 7) / 8)) := Nat.pow_le_pow_right (by omega) (by omega)
  rw [Nat.pow_mul] at h2
  exact Nat.lt_of_lt_of_le h (Nat.le_of_lt (Nat.lt_of_lt_of_le h1 h2))

end Go.Proofs.YtnfjmngchapdnaaDoor
