import Derived.Test.YtnfjmngchapdnaaRows
import Derived.Test.YtnfjmngchapdnaaMPubIs
import Derived.ProofKit
import Derived.OpenShut
import Derived.ShutString
import Derived.ChangeOld
import Derived.Below
import Derived.Lib.SmallJoins
/- The key as an argument, opened. -/
namespace Go.Proofs.Ytnfjmngchapdnaa
open Go.ChangeShapes Go.WideShapes Go.ChangeAt Go.RowKit

theorem own : ownKnob Try.prog.godebug = none := by kernel_rfl
theorem laidOut : laidOutB Try.prog = true := by kernel_rfl

section
variable {H : Type} {enc : TypeId × Value → H} {P : Program} {w : World} {base : Nat} {spare : Nat → Bool} {held : Bool}
theorem open_fields {r : Reach} {b0 : Nat} {t : TypeId} {fs : Array Field} {v : Value} {d : DataW H} {p : List MemPlace} (ht : P.underlying t = some (.struct fs)) (hone : Go.Deep.oneCellFields P fs = true) (hC : P.cellsOf t = fs.size)
    (hv : Value.okWide P w r b0 t v) (h : DataW.Trod enc P w base spare held t v d p) :
    ∃ cs : Array Value, v = .agg cs ∧ cs.size = fs.size ∧ ∃ n, ∀ (i : Nat) (f : Field) (c : Value), fs[i]? = some f → cs[i]? = some c → ∃ y, DataW.trod enc P w base spare held n f.type [c] = some y := by
  obtain ⟨cs, rfl, hsz⟩ := okWide_struct ht hv
  obtain ⟨fuel, hf⟩ := h
  obtain ⟨xs, n, _, _, hl, hlen, hff⟩ := DataW.trod_struct ht hf
  refine ⟨cs, rfl, hsz.trans hC, n, fun i f c hi hc => ?_⟩
  obtain ⟨o, k⟩ := Go.Deep.hone_of hone i f hi
  have h1 := hff i f hi
  have hlt : i < fs.size := (Array.getElem?_eq_some_iff.1 hi).1
  have hlx : i < xs.length := by omega
  rw [o, k, List.getElem?_eq_getElem hlx] at h1
  refine ⟨xs[i], ?_⟩
  rw [← h1]
  congr 1
  have hcl : i < cs.size := (Array.getElem?_eq_some_iff.1 hc).1
  have e1 : (Value.agg cs).cells.toList = cs.toList := rfl
  have e2 : cs.toList[i]? = some c := by simpa using hc
  have hcl2 : i < cs.toList.length := by simpa using hcl
  rw [e1, List.drop_eq_getElem_cons hcl2]
  rw [List.getElem?_eq_getElem hcl2] at e2
  simp only [Option.some.injEq] at e2
  rw [e2]
  simp
end

theorem array8 {α : Type} {cs : Array α} (h : cs.size = 8) : ∃ c0 c1 c2 c3 c4 c5 c6 c7, cs = #[c0, c1, c2, c3, c4, c5, c6, c7] := by
  obtain ⟨l⟩ := cs
  match l, h with
  | [c0, c1, c2, c3, c4, c5, c6, c7], _ => exact ⟨c0, c1, c2, c3, c4, c5, c6, c7, rfl⟩

/-- A slice of bytes that came in. -/
theorem open_bytes {H : Type} {enc : TypeId × Value → H} {W : World} {n : Nat} {v : Value} {y : DataW H × List MemPlace} (h : DataW.trod enc Try.prog W 0 (fun _ => true) true n 22 [v] = some y) :
    ∃ a m c L, v = .slice a m c ∧ SlB W a m c L := by
  rcases open_ints und_bytes und_u8 (by kernel_rfl) h with ⟨hcs, _⟩ | ⟨x, l, c, zs, hcs, _, hl, hm, hz, _, hcell, hwz⟩
  · have e : v = .slice none 0 0 := by simpa using hcs
    exact ⟨none, 0, 0, [], e, rfl, Nat.le_refl _, fun x hx => by simp at hx, fun h => absurd rfl h⟩
  · have e : v = .slice (some x) l c := by simpa using hcs
    have hzc : zs.length = c := by simpa using hz
    have hb : ∀ z, z ∈ zs → 0 ≤ z ∧ z ≤ 255 := fun z hz => by
      have := hwz z hz
      exact bounds_u8 this
    refine ⟨some x, l, c, (zs.take l).map Int.toNat, e, by simp; omega, hl, ?_, fun hne => ?_⟩
    · intro y hy
      obtain ⟨z, hz, rfl⟩ := List.mem_map.1 hy
      have := hb z (List.mem_of_mem_take hz)
      omega
    · have hl0 : 0 < l := by
        rcases Nat.eq_zero_or_pos l with h | h
        · subst h; simp at hne
        · exact h
      obtain ⟨b, off, spot⟩ := x
      have hc0 := hcell 0 (by omega)
      have hspot : spot = none := by simpa [Addr.add] using World.cell?_spot hc0
      subst hspot
      refine ⟨b, off, rfl, World.block_lt_of_cell? W _ hc0, fun i hi => ?_⟩
      have hi' : i < zs.length := by simp at hi; omega
      have h1 := hcell i hi'
      have e1 : (⟨b, off, none⟩ : Addr).add i = ⟨b, off + i, none⟩ := by unfold Addr.add; split <;> simp_all
      rw [e1] at h1
      rw [h1]
      have h2 := hb zs[i] (List.getElem_mem hi')
      simp [List.getD, List.getElem?_eq_getElem hi']
      omega

set_option maxRecDepth 100000 in
/-- A key that came in, opened. -/
theorem open_key {H : Type} {enc : TypeId × Value → H} {W : World} {r : Reach} {b0 : Nat} {v : Value} {d : DataW H} {p : List MemPlace} (hv : Value.okWide Try.prog W r b0 24 v)
    (h : DataW.Trod enc Try.prog W 0 (fun _ => true) true 24 v d p) :
    ∃ (a a2 a3 a4 a5 a6 a7 : Option Addr) (m cb n2 c2 n3 c3 n4 c4 n5 c5 n6 c6 n7 c7 : Nat) (L L2 L3 L4 L5 L6 L7 : List Nat) (E : Int),
      v = .agg #[.slice a m cb, .int .i64 E, .slice a2 n2 c2, .slice a3 n3 c3, .slice a4 n4 c4, .slice a5 n5 c5, .slice a6 n6 c6, .slice a7 n7 c7] ∧
      (-9223372036854775808 ≤ E ∧ E < 9223372036854775808) ∧ SlB W a m cb L ∧ SlB W a2 n2 c2 L2 ∧ SlB W a3 n3 c3 L3 ∧ SlB W a4 n4 c4 L4 ∧ SlB W a5 n5 c5 L5 ∧ SlB W a6 n6 c6 L6 ∧ SlB W a7 n7 c7 L7 := by
  obtain ⟨cs, rfl, hsz, n, hf⟩ := open_fields Try.underlying24 (by kernel_rfl) (by kernel_rfl) hv h
  obtain ⟨v0, v1, v2, v3, v4, v5, v6, v7, rfl⟩ := array8 hsz
  obtain ⟨y0, h0⟩ := hf 0 _ v0 rfl rfl
  obtain ⟨y1, h1⟩ := hf 1 _ v1 rfl rfl
  obtain ⟨y2, h2⟩ := hf 2 _ v2 rfl rfl
  obtain ⟨y3, h3⟩ := hf 3 _ v3 rfl rfl
  obtain ⟨y4, h4⟩ := hf 4 _ v4 rfl rfl
  obtain ⟨y5, h5⟩ := hf 5 _ v5 rfl rfl
  obtain ⟨y6, h6⟩ := hf 6 _ v6 rfl rfl
  obtain ⟨y7, h7⟩ := hf 7 _ v7 rfl rfl
  clear hf
  obtain ⟨a, m, cb, L, rfl, s0⟩ := open_bytes h0
  obtain ⟨E, e1, _, wE⟩ := DataW.trod_int Try.underlying3 h1
  have e1' : v1 = .int .i64 E := by simpa using e1
  subst e1'
  obtain ⟨a2, n2, c2, L2, rfl, s2⟩ := open_bytes h2
  obtain ⟨a3, n3, c3, L3, rfl, s3⟩ := open_bytes h3
  obtain ⟨a4, n4, c4, L4, rfl, s4⟩ := open_bytes h4
  obtain ⟨a5, n5, c5, L5, rfl, s5⟩ := open_bytes h5
  obtain ⟨a6, n6, c6, L6, rfl, s6⟩ := open_bytes h6
  obtain ⟨a7, n7, c7, L7, rfl, s7⟩ := open_bytes h7
  have hE := bounds_i64 wE
  exact ⟨a, a2, a3, a4, a5, a6, a7, m, cb, n2, c2, n3, c3, n4, c4, n5, c5, n6, c6, n7, c7, L, L2, L3, L4, L5, L6, L7, E, rfl, by omega, s0, s2, s3, s4, s5, s6, s7⟩

end Go.Proofs.Ytnfjmngchapdnaa
