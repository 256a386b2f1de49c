/- slices.Clone of bytes, rsa.ZZNewPublicKey, ZZCheckPublicKey, impl.publicOf. -/
import Derived.Test.YtnfjmngchapdnaaRsaPub
import Derived.Shelf.Slices.Clone
namespace Go.Proofs.Ytnfjmngchapdnaa
open Go.RowKit

def u8s (L : List Nat) : List Value := L.map fun (x : Nat) => .int .u8 (x : Int)
theorem und_bytes : Try.prog.underlying 22 = some (.slice 5) := by kernel_rfl
theorem info_byte : (Try.prog.info? 5).map (fun i => (i.zero, i.size, i.bytes)) = some (some (.int .u8 0), 1, 1) := by kernel_rfl

theorem alloc_cell (w : World) (C : Array Value) (t : TypeId) (i : Nat) : (w.alloc (.cells C t)).cell? ⟨w.heap.size, i, none⟩ = C[i]? := by
  have h : (w.alloc (.cells C t)).heap[w.heap.size]? = some (.cells C t (0, 0)) := by
    show (w.heap.push _)[w.heap.size]? = _
    rw [Array.getElem?_push, if_pos rfl]
  unfold World.cell?
  rw [h]; rfl

/-- What an append to a row of bytes of one's own leaves. -/
theorem SlB.of_own {w : World} {B : Nat} {v : Value} {n : Nat} {L : List Nat} (h : w.ownsRow B 5 1 v n (u8s L)) (hL : LtB L) :
    ∃ a c, v = .slice a n c ∧ SlB w a n c L ∧ (L ≠ [] → ∃ b, a = some ⟨b, 0, none⟩ ∧ B ≤ b) := by
  obtain ⟨h1, h2⟩ := h
  have hn : L.length = n := by simpa [u8s] using h1
  rcases h2 with ⟨rfl, rfl⟩ | ⟨g, cap, cur, rfl, hb, hg, hc, hm, hs, ht⟩
  · have : L = [] := List.length_eq_zero_iff.1 hn
    subst this
    exact ⟨none, 0, rfl, ⟨rfl, Nat.le_refl _, hL, fun h => absurd rfl h⟩, fun h => absurd rfl h⟩
  · refine ⟨some ⟨g, 0, none⟩, cap, rfl, ⟨hn, hc, hL, fun _ => ⟨g, 0, rfl, lt_of_block hg, ?_⟩⟩, fun _ => ⟨g, rfl, hb⟩⟩
    intro i hi
    have e : (u8s L)[i]? = some (.int .u8 (L[i] : Int)) := by simp [u8s, hi]
    rw [← ht, List.getElem?_take] at e
    split at e
    · simp only [World.cell?, hg, Nat.zero_add]
      rw [← e]; simp
    · simp at e

set_option maxHeartbeats 2000000 in
set_option maxRecDepth 100000 in
theorem clone_bytes (a : Option Addr) (m c : Nat) (L : List Nat) (w : World) (hs : SlB w a m c L) (hm : m ≤ 100000) :
    Calls Try.prog 27 #[.slice a m c] w fun e w' =>
      ∃ a' c', e = .returned (.slice a' m c') ∧ SlB w' a' m c' L ∧ (L ≠ [] → ∃ b, a' = some ⟨b, 0, none⟩ ∧ w.heap.size ≤ b) ∧ Keeps [] w w' := by
  obtain ⟨i0, hi, hz0, hz1, hz2⟩ := info_parts info_byte
  have hu := und_bytes
  have q22 : ∀ (w : World) (a : Option Addr) (n c n' c' : Nat), (binOp .eql 22 (.slice a n c) (.slice none n' c')).run Try.prog w = .ok (.bool a.isNone) w := fun w a n c n' c' => Lib.run_eql_slice_nil w _ _ a n c n' c' und_bytes
  have HS := Lib.hid hs
  obtain ⟨h1, h2, h3, h4⟩ := hs
  rcases a with _ | ad
  · have hL : L = [] := by
      rcases List.eq_nil_or_concat L with h | ⟨M, x, h⟩
      · exact h
      · obtain ⟨b, o, e, _⟩ := h4 (by rw [h]; simp)
        simp at e
    clear h4
    have hm0 : m = 0 := by rw [← h1, hL]; rfl
    subst hm0
    subst hL
    go_enter Try.func27, Try.ntmps27
    go_wp2
    go_ret
    exact ⟨none, 0, rfl, ⟨rfl, Nat.le_refl _, h3, fun h => absurd rfl h⟩, fun h => absurd rfl h, Keeps.refl _ _⟩
  · have H4 := Lib.hid h4
    clear h4
    go_enter Try.func27, Try.ntmps27
    go_wp2_with (at_builtin; refine wpList_append_own _ rfl _ _ 22 rfl w.heap.size 5 i0 (.int .u8 0) 1 1 hu hi hz0 hz1 hz2 rfl (by decide) _ _ _ rfl (World.ownsRow_made w #[] 0 (Nat.le_refl _) (Nat.zero_le _) rfl) ad m c (u8s L) rfl ?qc1 ?qc2 ?qc3 ?qc4 ?qc5 ?qc6 ?_)
    case qc1 => simp [u8s, h1]
    case qc2 =>
      intro j u hj
      have hjn : j < L.length := by
        have := (List.getElem?_eq_some_iff.1 hj).1
        simpa [u8s] using this
      obtain ⟨b, o, e, hb, hB⟩ := H4.out (by intro h; simp [h] at hjn)
      have e' : ad = ⟨b, o, none⟩ := by simpa using e
      subst e'
      have h5 := hB j hjn
      rw [Addr.add_lit]
      refine Lib.cell?_alloc_some _ ?_
      rw [h5]
      simpa [u8s, hjn] using hj
    case qc3 => intro u hu; obtain ⟨x, _, rfl⟩ := List.mem_map.1 hu; rfl
    case qc4 => unfold maxLen; omega
    case qc5 => omega
    case qc6 => simp
    intro v' w1 hown hgrow hnil
    go_wp2
    go_ret
    have hk : Keeps [] w w1 := Keeps.below (((Below.refl _ w).alloc (Nat.le_refl _) _).grown hgrow (by simp) (by intro k hk; simp [Value.ownBlock] at hk; omega)) rfl
    have hown' : w1.ownsRow w.heap.size 5 1 v' m (u8s L) := by simpa using hown
    obtain ⟨a', c', rfl, h5, h6⟩ := SlB.of_own hown' h3
    exact ⟨a', c', rfl, h5, h6, hk⟩

end Go.Proofs.Ytnfjmngchapdnaa
