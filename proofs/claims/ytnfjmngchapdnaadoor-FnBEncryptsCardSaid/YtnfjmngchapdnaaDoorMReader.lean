import Derived.Test.YtnfjmngchapdnaaDoorMLen
import Derived.Test.YtnfjmngchapdnaaDoorMRowB
import Derived.LaidEql
import Derived.Deep.LoopGhost
/- bytes.Reader, io.ReadFull. -/
namespace Go.Proofs.YtnfjmngchapdnaaDoor
open Go.RowKit

/-- The library's errors, as they are laid. -/
def Gl (w : World) (a0 a1 a2 a3 : Addr) : Prop :=
  w.cell? ⟨0, 0, none⟩ = some (.iface 89 (.pointer (some a0))) ∧ w.cell? ⟨1, 0, none⟩ = some (.iface 89 (.pointer (some a1))) ∧
  w.cell? ⟨2, 0, none⟩ = some (.iface 89 (.pointer (some a2))) ∧ w.cell? ⟨3, 0, none⟩ = some (.iface 89 (.pointer (some a3)))
theorem Gl.size {w : World} {a0 a1 a2 a3 : Addr} (h : Gl w a0 a1 a2 a3) : 4 ≤ w.heap.size := World.block_lt_of_cell? w _ h.2.2.2
theorem Gl.keeps {S : List Nat} {w w' : World} {a0 a1 a2 a3 : Addr} (h : Gl w a0 a1 a2 a3) (hk : Keeps S w w') (hS : ∀ x, x ∈ S → 4 ≤ x) : Gl w' a0 a1 a2 a3 := by
  have hs := h.size
  have g : ∀ i, i < 4 → i ∉ S := fun i hi hm => by have := hS i hm; omega
  exact ⟨Keeps.cell h.1 hk (by omega) (g 0 (by omega)), Keeps.cell h.2.1 hk (by omega) (g 1 (by omega)), Keeps.cell h.2.2.1 hk (by omega) (g 2 (by omega)), Keeps.cell h.2.2.2 hk (by omega) (g 3 (by omega))⟩

/-- A reader at rp: its bytes, its place. -/
def RdV (w : World) (rp : Nat) (a : Option Addr) (n c i : Nat) : Prop := ∃ pr : Int, w.heap[rp]? = some (.cells #[.slice a n c, .int .i64 (i : Int), .int .i64 pr] 63 (0, 0))
theorem RdV.keeps {S : List Nat} {w w' : World} {rp : Nat} {a : Option Addr} {n c i : Nat} (h : RdV w rp a n c i) (hk : Keeps S w w') (hb : rp ∉ S) : RdV w' rp a n c i := by
  obtain ⟨pr, h⟩ := h
  exact ⟨pr, blk_keeps h hk hb⟩

set_option maxRecDepth 100000 in
set_option maxHeartbeats 2000000 in
theorem read_eof (rp : Nat) (a : Option Addr) (nR cR i : Nat) (x : Value) (w : World) (a0 a1 a2 a3 : Addr) (hg : Gl w a0 a1 a2 a3) (hr : RdV w rp a nR cR i) (hi : nR ≤ i) :
    Calls Tryd.prog 108 #[.pointer (some ⟨rp, 0, none⟩), x] w fun e w' => e = .returned (.tuple #[.int .i64 0, .iface 89 (.pointer (some a2))]) ∧ Keeps [] w w' := by
  obtain ⟨pr, hb⟩ := hr
  have c0 : w.cell? ⟨rp, 0, none⟩ = some (.slice a nR cR) := by rw [cell_of_row w rp _ _ _ _ hb]; rfl
  have c1 : w.cell? ⟨rp, 1, none⟩ = some (.int .i64 (i : Int)) := by rw [cell_of_row w rp _ _ _ _ hb]; rfl
  have g2 := hg.2.2.1
  have i1 : (nR : Int) ≤ (i : Int) := by omega
  go_enter Tryd.func108, Tryd.ntmps108
  go_wp2_with fail
  refine wp_region_txt [0,0,0,1,0,0,0,1,0,0] (fun _ => True) (by kernel_rfl) (by kernel_rfl) trivial ?_
  simp only [withMarks]
  repeat (first
    | ((with_reducible refine txt_v (v := ?_) ?_ ?_); (any_goals ((with_reducible refine Yl.mk ?_ ?_); rfl; intro w hSw; (go_simp <;> (try go_bits) <;> (repeat (first | rw [if_pos (by omega)] | rw [if_neg (by omega)])) <;> with_reducible rfl))); try simp only [Act.put, List.setIfInBounds_toArray, List.set_cons_zero, List.set_cons_succ])
    | ((with_reducible refine txt_u ?_ ?_); rfl; try simp only [Act.put, List.setIfInBounds_toArray, List.set_cons_zero, List.set_cons_succ])
    | ((with_reducible refine txt_l (v := ?_) ?_ ?_); (any_goals ((with_reducible refine Reads.mk ?_ ?_); rfl; (go_simp <;> (try go_bits) <;> (repeat (first | rw [if_pos (by omega)] | rw [if_neg (by omega)])) <;> with_reducible rfl))); try simp only [Act.put, List.setIfInBounds_toArray, List.set_cons_zero, List.set_cons_succ])
    | ((with_reducible refine txt_e ?_ ?_); rfl; intro K hK; go_simp; (first | (refine hK _ _ trivial ?_) | ((first | fail); dsimp only; refine hK _ _ trivial ?_)); clear hK K; try simp only [Act.put, List.setIfInBounds_toArray, List.set_cons_zero, List.set_cons_succ]))
  refine txt_nil ?_
  go_wp2_with fail
  refine wp_region_txt [1,0,0] (fun _ => True) (by kernel_rfl) (by kernel_rfl) trivial ?_
  simp only [withMarks]
  repeat (first
    | ((with_reducible refine txt_v (v := ?_) ?_ ?_); (any_goals ((with_reducible refine Yl.mk ?_ ?_); rfl; intro w hSw; (go_simp <;> (try go_bits) <;> (repeat (first | rw [if_pos (by omega)] | rw [if_neg (by omega)])) <;> with_reducible rfl))); try simp only [Act.put, List.setIfInBounds_toArray, List.set_cons_zero, List.set_cons_succ])
    | ((with_reducible refine txt_u ?_ ?_); rfl; try simp only [Act.put, List.setIfInBounds_toArray, List.set_cons_zero, List.set_cons_succ])
    | ((with_reducible refine txt_l (v := ?_) ?_ ?_); (any_goals ((with_reducible refine Reads.mk ?_ ?_); rfl; (go_simp <;> (try go_bits) <;> (repeat (first | rw [if_pos (by omega)] | rw [if_neg (by omega)])) <;> with_reducible rfl))); try simp only [Act.put, List.setIfInBounds_toArray, List.set_cons_zero, List.set_cons_succ])
    | ((with_reducible refine txt_e ?_ ?_); rfl; intro K hK; go_simp; (first | (refine hK _ _ trivial ?_) | ((first | fail); dsimp only; refine hK _ _ trivial ?_)); clear hK K; try simp only [Act.put, List.setIfInBounds_toArray, List.set_cons_zero, List.set_cons_succ]))
  refine txt_nil ?_
  go_wp2_with fail
  go_ret2
  exact ⟨rfl, ((Keeps.refl _ _).drew).drew⟩

theorem RdV.ne_bytes {w : World} {rp : Nat} {a : Option Addr} {n c i b o : Nat} {L : List Nat} (h : RdV w rp a n c i) (hB : BAt w b o L) (hL : L ≠ []) : b ≠ rp := by
  rintro rfl
  obtain ⟨pr, h⟩ := h
  have h0 := hB 0 (List.length_pos_iff.2 hL)
  rw [cell_of_row w b _ _ _ _ h] at h0
  rcases Nat.lt_or_ge (o + 0) 3 with h1 | h1
  · rcases (by omega : o + 0 = 0 ∨ o + 0 = 1 ∨ o + 0 = 2) with e | e | e <;> rw [e] at h0 <;> simp at h0
  · rw [Array.getElem?_eq_none (by simp; omega)] at h0
    simp at h0

set_option maxRecDepth 100000 in
set_option maxHeartbeats 2000000 in
theorem read_some (rp s oR nR cR i b off dLen dCap m : Nat) (R L : List Nat) (w : World) (hr : RdV w rp (some ⟨s, oR, none⟩) nR cR i) (hR : BAt w s oR R) (hRn : R.length = nR) (hc : nR ≤ cR) (hi : i < nR) (hsz : nR ≤ 100000) (hb : RowB w b L) (hfit : off + dLen ≤ L.length) (hm : m = Nat.min (nR - i) dLen) (hsb : s ≠ b) :
    Calls Tryd.prog 108 #[.pointer (some ⟨rp, 0, none⟩), .slice (some ⟨b, off, none⟩) dLen dCap] w fun e w' => e = .returned (.tuple #[.int .i64 (m : Int), .nilIface]) ∧
      RowB w' b (L.take off ++ ((R.drop i).take m ++ L.drop (off + m))) ∧ RdV w' rp (some ⟨s, oR, none⟩) nR cR (i + m) ∧ Keeps [rp, b] w w' := by
  have hne := hr.ne_bytes hR (List.ne_nil_of_length_pos (by omega))
  obtain ⟨pr, hb0⟩ := hr
  have c0 : w.cell? ⟨rp, 0, none⟩ = some (.slice (some ⟨s, oR, none⟩) nR cR) := by rw [cell_of_row w rp _ _ _ _ hb0]; rfl
  have c1 : w.cell? ⟨rp, 1, none⟩ = some (.int .i64 (i : Int)) := by rw [cell_of_row w rp _ _ _ _ hb0]; rfl
  have c2 : w.cell? ⟨rp, 2, none⟩ = some (.int .i64 pr) := by rw [cell_of_row w rp _ _ _ _ hb0]; rfl
  have ff : ∀ j, w.frozen? ⟨rp, j, none⟩ = false := fun j => by simp [World.frozen?, hb0]
  have i1 : decide ((nR : Int) ≤ (i : Int)) = false := decide_eq_false (by omega)
  have h1 := block_set hb0 2 (.int .i64 (-1))
  have hbr : b ≠ rp := by
    rintro rfl
    have h2 := hb.symm.trans hb0
    simp only [Option.some.injEq, Obj.cells.injEq] at h2
    exact absurd h2.2.1 (by decide)
  have k1 : Keeps [rp] w (w.setCell ⟨rp, 2, none⟩ (.int .i64 (-1))) := (Keeps.refl _ _).setCell (by simp) _
  have hb1 : RowB (w.setCell ⟨rp, 2, none⟩ (.int .i64 (-1))).drew.drew b L := (hb.keeps k1 (by simp [hbr])).drew.drew
  have hsrc : BAt (w.setCell ⟨rp, 2, none⟩ (.int .i64 (-1))).drew.drew s (oR + i) ((R.drop i).take m) := ((((hR.keeps (World.block_lt_of_cell? w _ (hR 0 (by omega))) k1 (by simp [hne])).drew.drew).drop i).take m)
  have hmd : m ≤ dLen := by rw [hm]; exact Nat.min_le_right _ _
  have hmn : m ≤ nR - i := by rw [hm]; exact Nat.min_le_left _ _
  obtain ⟨w1, hcp, hb2, hk2⟩ := run_copy_bytes hb1 s (oR + i) off dLen dCap (nR - i) (cR - i) m hm (by simp; omega) (by omega) hsrc
  have hkk : Keeps [rp, b] w w1 := ((k1.mono (by simp)).drew.drew).trans hk2 (by simp)
  have h3 := blk_keeps (S := [b]) (w := (w.setCell ⟨rp, 2, none⟩ (.int .i64 (-1))).drew.drew) h1 hk2 (by simp; exact fun h => hbr h.symm)
  have d0 : (w.setCell ⟨rp, 2, none⟩ (.int .i64 (-1))).cell? ⟨rp, 0, none⟩ = some (.slice (some ⟨s, oR, none⟩) nR cR) := by rw [cell_of_row _ rp _ _ _ _ h1]; rfl
  have d1 : (w.setCell ⟨rp, 2, none⟩ (.int .i64 (-1))).cell? ⟨rp, 1, none⟩ = some (.int .i64 (i : Int)) := by rw [cell_of_row _ rp _ _ _ _ h1]; rfl
  have e1 : w1.cell? ⟨rp, 1, none⟩ = some (.int .i64 (i : Int)) := by rw [cell_of_row _ rp _ _ _ _ h3]; rfl
  have ee : ∀ j, w1.frozen? ⟨rp, j, none⟩ = false := fun j => by simp [World.frozen?, h3]
  have h4 := block_set h3 1 (.int .i64 ((i : Int) + (m : Int)))
  have hb4 : RowB (w1.setCell ⟨rp, 1, none⟩ (.int .i64 ((i : Int) + (m : Int)))) b (L.take off ++ ((R.drop i).take m ++ L.drop (off + m))) := hb2.keeps ((Keeps.refl [rp] _).setCell (by simp) _) (by simp [hbr])
  have hk4 : Keeps [rp, b] w (w1.setCell ⟨rp, 1, none⟩ (.int .i64 ((i : Int) + (m : Int)))) := hkk.setCell (by simp) _
  have i2 : ¬ (cR = i) := by omega
  have H4 := Lib.hid h4; have HB4 := Lib.hid hb4; have HK4 := Lib.hid hk4
  clear h3 h4 hb4 hk4 hb2 hkk hsrc hb1 k1 h1 hm
  go_enter Tryd.func108, Tryd.ntmps108
  go_wp2_with fail
  refine wp_region_txt [0,0,0,1,0,0,0,1,0,0] (fun _ => True) (by kernel_rfl) (by kernel_rfl) trivial ?_
  simp only [withMarks]
  repeat (first
    | ((with_reducible refine txt_v (v := ?_) ?_ ?_); (any_goals ((with_reducible refine Yl.mk ?_ ?_); rfl; intro w hSw; (go_simp <;> (try go_bits) <;> (repeat (first | rw [if_pos (by omega)] | rw [if_neg (by omega)])) <;> with_reducible rfl))); try simp only [Act.put, List.setIfInBounds_toArray, List.set_cons_zero, List.set_cons_succ])
    | ((with_reducible refine txt_u ?_ ?_); rfl; try simp only [Act.put, List.setIfInBounds_toArray, List.set_cons_zero, List.set_cons_succ])
    | ((with_reducible refine txt_l (v := ?_) ?_ ?_); (any_goals ((with_reducible refine Reads.mk ?_ ?_); rfl; (go_simp <;> (try go_bits) <;> (repeat (first | rw [if_pos (by omega)] | rw [if_neg (by omega)])) <;> with_reducible rfl))); try simp only [Act.put, List.setIfInBounds_toArray, List.set_cons_zero, List.set_cons_succ])
    | ((with_reducible refine txt_e ?_ ?_); rfl; intro K hK; go_simp; (first | (refine hK _ _ trivial ?_) | ((first | fail); dsimp only; refine hK _ _ trivial ?_)); clear hK K; try simp only [Act.put, List.setIfInBounds_toArray, List.set_cons_zero, List.set_cons_succ]))
  refine txt_nil ?_
  go_wp2_with fail
  refine wp_region_txt [0,0,0,0,1,0,0,0,1,0,2,0] (fun _ => True) (by kernel_rfl) (by kernel_rfl) trivial ?_
  simp only [withMarks]
  repeat (first
    | ((with_reducible refine txt_v (v := ?_) ?_ ?_); (any_goals ((with_reducible refine Yl.mk ?_ ?_); rfl; intro w hSw; (go_simp <;> (try go_bits) <;> (repeat (first | rw [if_pos (by omega)] | rw [if_neg (by omega)])) <;> with_reducible rfl))); try simp only [Act.put, List.setIfInBounds_toArray, List.set_cons_zero, List.set_cons_succ])
    | ((with_reducible refine txt_u ?_ ?_); rfl; try simp only [Act.put, List.setIfInBounds_toArray, List.set_cons_zero, List.set_cons_succ])
    | ((with_reducible refine txt_l (v := ?_) ?_ ?_); (any_goals ((with_reducible refine Reads.mk ?_ ?_); rfl; (go_simp <;> (try go_bits) <;> (repeat (first | rw [if_pos (by omega)] | rw [if_neg (by omega)])) <;> with_reducible rfl))); try simp only [Act.put, List.setIfInBounds_toArray, List.set_cons_zero, List.set_cons_succ])
    | ((with_reducible refine txt_e ?_ ?_); rfl; intro K hK; go_simp; (first | (refine hK _ _ trivial ?_) | ((first | fail); dsimp only; refine hK _ _ trivial ?_)); clear hK K; try simp only [Act.put, List.setIfInBounds_toArray, List.set_cons_zero, List.set_cons_succ]))
  refine txt_nil ?_
  go_wp2_with fail
  go_ret2
  exact ⟨rfl, HB4.out, ⟨_, by have h := H4.out; simpa using h⟩, HK4.out⟩

end Go.Proofs.YtnfjmngchapdnaaDoor

/- io.ReadAtLeast, io.ReadFull on a bytes.Reader. -/
namespace Go.Proofs.YtnfjmngchapdnaaDoor
open Go.RowKit

theorem nil_ahead (a : Addr) (w : World) : (nilAhead 246 47 (.pointer (some a)) "Read").run Tryd.prog w = .ok (some false) w := by kernel_rfl
theorem method_read (a : Addr) (w : World) : (method 246 47 (.pointer (some a)) "Read").run Tryd.prog w = .ok (108, .pointer (some a)) w := by kernel_rfl
theorem comp_err : (Tryd.prog.info? 89).map (·.comparable) = some true := by kernel_rfl
theorem size_err : (Tryd.prog.info? 91).map (·.size) = some 1 := by kernel_rfl

/-- What a full read leaves: all bytes, or an error. -/
def FullR (e : Ending) (w' : World) (rp s oR nR cR i b off dLen : Nat) (R L : List Nat) : Prop :=
  (i + dLen ≤ nR ∧ e = .returned (.tuple #[.int .i64 (dLen : Int), .nilIface]) ∧ RowB w' b (L.take off ++ ((R.drop i).take dLen ++ L.drop (off + dLen))) ∧ RdV w' rp (some ⟨s, oR, none⟩) nR cR (i + dLen)) ∨
  (nR < i + dLen ∧ ∃ x t v, e = .returned (.tuple #[x, .iface t v]))

set_option maxRecDepth 100000 in
set_option maxHeartbeats 4000000 in
theorem readAtLeast_any (rp s oR nR cR i b off dLen dCap : Nat) (R L : List Nat) (w : World) (a0 a1 a2 a3 : Addr) (hg : Gl w a0 a1 a2 a3) (hr : RdV w rp (some ⟨s, oR, none⟩) nR cR i) (hR : BAt w s oR R) (hRn : R.length = nR) (hc : nR ≤ cR) (hsz : nR ≤ 100000)
    (hb : RowB w b L) (hfit : off + dLen ≤ L.length) (hd : 0 < dLen) (hdc : dLen ≤ dCap) (hsb : s ≠ b) (hrb : 4 ≤ rp) (hbb : 4 ≤ b) (hdz : dLen ≤ 100000) (hin : i ≤ nR) (hnR : 0 < nR) :
    Calls Tryd.prog 47 #[.iface 47 (.pointer (some ⟨rp, 0, none⟩)), .slice (some ⟨b, off, none⟩) dLen dCap, .int .i64 (dLen : Int)] w fun e w' => FullR e w' rp s oR nR cR i b off dLen R L ∧ Keeps [rp, b] w w' := by
  have hna := nil_ahead
  have hme := method_read
  obtain ⟨ti, hti, hcmp⟩ := Option.map_eq_some_iff.1 comp_err
  obtain ⟨tj, htj, _⟩ := Option.map_eq_some_iff.1 size_err
  have heq := fun w' => run_eql_iface_ptr_same (P := Tryd.prog) w' a2 Tryd.underlying44 Tryd.underlying89 hti hcmp htj
  have hne := hr.ne_bytes hR (List.ne_nil_of_length_pos (by omega))
  obtain ⟨m, hm⟩ : ∃ m, m = Nat.min (nR - i) dLen := ⟨_, rfl⟩
  have hmd : m ≤ dLen := by rw [hm]; exact Nat.min_le_right _ _
  have hmn : m ≤ nR - i := by rw [hm]; exact Nat.min_le_left _ _
  have hmm : m = dLen ∨ i + m = nR := by
    rcases Nat.le_total (nR - i) dLen with h | h
    · right
      rw [hm]
      show i + min (nR - i) dLen = nR
      rw [Nat.min_eq_left h]; omega
    · left
      rw [hm]
      exact Nat.min_eq_right h
  have HM := Lib.hid hm
  have hdc0 : ¬ (dCap = 0) := by omega
  clear hm
  have keepG : ∀ w', Keeps [rp, b] w w' → Gl w' a0 a1 a2 a3 := fun w' hk => hg.keeps hk (by simp; omega)
  have KG := Lib.hid keepG
  clear keepG
  go_enter Tryd.func47, Tryd.ntmps47
  go_wp2_with fail
  go_loopg [6, 7] 2 (fun gn nv ev wx => (gn = 2 ∧ nv = .int .i64 0 ∧ ev = .nilIface ∧ Hid (RowB wx b L ∧ RdV wx rp (some ⟨s, oR, none⟩) nR cR i) ∧ Hid (Keeps [rp, b] w wx)) ∨
    (gn = 1 ∧ i < nR ∧ nv = .int .i64 (m : Int) ∧ ev = .nilIface ∧ Hid (RowB wx b (L.take off ++ ((R.drop i).take m ++ L.drop (off + m))) ∧ RdV wx rp (some ⟨s, oR, none⟩) nR cR (i + m)) ∧ Hid (Keeps [rp, b] w wx)) ∨
    (gn = 0 ∧ nR < i + dLen ∧ (∃ n : Nat, n < dLen ∧ nv = .int .i64 (n : Int)) ∧ ev = .iface 89 (.pointer (some a2)) ∧ Hid (Keeps [rp, b] w wx)))
  case atStart => exact .inl ⟨rfl, rfl, rfl, Lib.hid ⟨hb, hr⟩, Lib.hid (Keeps.refl _ _)⟩
  case round =>
    rcases hrel with ⟨hgn, rfl, rfl, hB, hK⟩ | ⟨hgn, hiR, rfl, rfl, hB, hK⟩ | ⟨hgn, hlt, ⟨n, hn, rfl⟩, rfl, hK⟩
    · have i1 : (0 : Int) < (dLen : Int) := by omega
      by_cases hiR : i < nR
      · have hrd : RdV wr.drew rp (some ⟨s, oR, none⟩) nR cR i := hB.out.2
        have hbd : RowB wr.drew b L := hB.out.1
        have hsd : BAt wr.drew s oR R := (hR.keeps (World.block_lt_of_cell? w _ (hR 0 (by omega))) hK.out (by simp [hne, hsb])).drew
        have hrs := read_some rp s oR nR cR i b off dLen dCap m R L wr.drew hrd hsd hRn hc hiR hsz hbd hfit HM.out hsb
        have HRS := Lib.hid hrs
        clear hrs hrd hbd hsd
        go_wp2_with fail
        refine wp_region_txt [0,0,0,0,2,0,0,2,0,0,0,0,0] (fun _ => True) (by kernel_rfl) (by kernel_rfl) trivial ?_
        simp only [withMarks]
        repeat (first
          | ((with_reducible refine txt_v (v := ?_) ?_ ?_); (any_goals ((with_reducible refine Yl.mk ?_ ?_); rfl; intro w hSw; (go_simp <;> (try go_bits) <;> (repeat (first | rw [if_pos (by omega)] | rw [if_neg (by omega)])) <;> with_reducible rfl))); try simp only [Act.put, List.setIfInBounds_toArray, List.set_cons_zero, List.set_cons_succ])
          | ((with_reducible refine txt_u ?_ ?_); rfl; try simp only [Act.put, List.setIfInBounds_toArray, List.set_cons_zero, List.set_cons_succ])
          | ((with_reducible refine txt_l (v := ?_) ?_ ?_); (any_goals ((with_reducible refine Reads.mk ?_ ?_); rfl; (go_simp <;> (try go_bits) <;> (repeat (first | rw [if_pos (by omega)] | rw [if_neg (by omega)])) <;> with_reducible rfl))); try simp only [Act.put, List.setIfInBounds_toArray, List.set_cons_zero, List.set_cons_succ])
          | ((with_reducible refine txt_e ?_ ?_); rfl; intro K hK; go_simp; (first | (refine hK _ _ trivial ?_) | ((first | (go_at_call 108; refine HRS.out.mono ?_; rintro e w2 ⟨rfl, hB2, hR2, hk2⟩)); dsimp only; refine hK _ _ trivial ?_)); clear hK K; try simp only [Act.put, List.setIfInBounds_toArray, List.set_cons_zero, List.set_cons_succ]))
        refine txt_nil ?_
        have HB2 := Lib.hid (And.intro hB2 hR2); have HK2 := Lib.hid (hK.out.drew.trans hk2 (by simp))
        clear hB2 hR2 hk2 hB hK
        go_wp2_with fail
        go_roundg 1
        case measure => omega
        case rel => exact .inr (.inl ⟨rfl, hiR, by go_num, rfl, HB2, HK2⟩)
      · have hre := read_eof rp (some ⟨s, oR, none⟩) nR cR i (.slice (some ⟨b, off, none⟩) dLen dCap) wr.drew a0 a1 a2 a3 ((KG.out _ hK.out).keeps ((Keeps.refl [] wr).drew) (by simp)) hB.out.2 (by omega)
        have HRE := Lib.hid hre
        clear hre
        go_wp2_with fail
        refine wp_region_txt [0,0,0,0,2,0,0,2,0,0,0,0,0] (fun _ => True) (by kernel_rfl) (by kernel_rfl) trivial ?_
        simp only [withMarks]
        repeat (first
          | ((with_reducible refine txt_v (v := ?_) ?_ ?_); (any_goals ((with_reducible refine Yl.mk ?_ ?_); rfl; intro w hSw; (go_simp <;> (try go_bits) <;> (repeat (first | rw [if_pos (by omega)] | rw [if_neg (by omega)])) <;> with_reducible rfl))); try simp only [Act.put, List.setIfInBounds_toArray, List.set_cons_zero, List.set_cons_succ])
          | ((with_reducible refine txt_u ?_ ?_); rfl; try simp only [Act.put, List.setIfInBounds_toArray, List.set_cons_zero, List.set_cons_succ])
          | ((with_reducible refine txt_l (v := ?_) ?_ ?_); (any_goals ((with_reducible refine Reads.mk ?_ ?_); rfl; (go_simp <;> (try go_bits) <;> (repeat (first | rw [if_pos (by omega)] | rw [if_neg (by omega)])) <;> with_reducible rfl))); try simp only [Act.put, List.setIfInBounds_toArray, List.set_cons_zero, List.set_cons_succ])
          | ((with_reducible refine txt_e ?_ ?_); rfl; intro K hK; go_simp; (first | (refine hK _ _ trivial ?_) | ((first | (go_at_call 108; refine HRE.out.mono ?_; rintro e w2 ⟨rfl, hk2⟩)); dsimp only; refine hK _ _ trivial ?_)); clear hK K; try simp only [Act.put, List.setIfInBounds_toArray, List.set_cons_zero, List.set_cons_succ]))
        refine txt_nil ?_
        have HK2 := Lib.hid (hK.out.drew.trans hk2 (by simp))
        clear hk2 hB hK
        go_wp2_with fail
        go_roundg 0
        case measure => omega
        case rel => exact .inr (.inr ⟨rfl, by omega, ⟨0, hd, by go_num⟩, rfl, HK2⟩)
    · by_cases hfull : m = dLen
      · have hfin := Lib.hid hB.out
        rw [hfull] at hfin
        have i1 : ¬ (m : Int) < (dLen : Int) := by omega
        have i2 : (dLen : Int) ≤ (m : Int) := by omega
        have i3 : (m : Int) = (dLen : Int) := by omega
        clear hB
        go_wp2_with fail
        go_ret2
        exact ⟨.inl ⟨by omega, by first | rfl | rw [hfull], hfin.out.1, hfin.out.2⟩, hK.out⟩
      · have hend : i + m = nR := by omega
        have i1 : (m : Int) < (dLen : Int) := by omega
        have i2 : ¬ (dCap = m) := by omega
        have hre := read_eof rp (some ⟨s, oR, none⟩) nR cR (i + m) (.slice (some ⟨b, off + m, none⟩) (dLen - m) (dCap - m)) wr.drew a0 a1 a2 a3 ((KG.out _ hK.out).keeps ((Keeps.refl [] wr).drew) (by simp)) hB.out.2 (by omega)
        have HRE := Lib.hid hre
        clear hre
        go_wp2_with fail
        refine wp_region_txt [0,0,0,0,2,0,0,2,0,0,0,0,0] (fun _ => True) (by kernel_rfl) (by kernel_rfl) trivial ?_
        simp only [withMarks]
        repeat (first
          | ((with_reducible refine txt_v (v := ?_) ?_ ?_); (any_goals ((with_reducible refine Yl.mk ?_ ?_); rfl; intro w hSw; (go_simp <;> (try go_bits) <;> (repeat (first | rw [if_pos (by omega)] | rw [if_neg (by omega)])) <;> with_reducible rfl))); try simp only [Act.put, List.setIfInBounds_toArray, List.set_cons_zero, List.set_cons_succ])
          | ((with_reducible refine txt_u ?_ ?_); rfl; try simp only [Act.put, List.setIfInBounds_toArray, List.set_cons_zero, List.set_cons_succ])
          | ((with_reducible refine txt_l (v := ?_) ?_ ?_); (any_goals ((with_reducible refine Reads.mk ?_ ?_); rfl; (go_simp <;> (try go_bits) <;> (repeat (first | rw [if_pos (by omega)] | rw [if_neg (by omega)])) <;> with_reducible rfl))); try simp only [Act.put, List.setIfInBounds_toArray, List.set_cons_zero, List.set_cons_succ])
          | ((with_reducible refine txt_e ?_ ?_); rfl; intro K hK; go_simp; (first | (refine hK _ _ trivial ?_) | ((first | (go_at_call 108; refine HRE.out.mono ?_; rintro e w2 ⟨rfl, hk2⟩)); dsimp only; refine hK _ _ trivial ?_)); clear hK K; try simp only [Act.put, List.setIfInBounds_toArray, List.set_cons_zero, List.set_cons_succ]))
        refine txt_nil ?_
        have HK2 := Lib.hid (hK.out.drew.trans hk2 (by simp))
        clear hk2 hB hK
        go_wp2_with fail
        go_roundg 0
        case measure => omega
        case rel => exact .inr (.inr ⟨rfl, by omega, ⟨m, by omega, by go_num⟩, rfl, HK2⟩)
    · have g2 := (KG.out _ hK.out).2.2.1
      have g3 := (KG.out _ hK.out).2.2.2
      have i1 : (n : Int) < (dLen : Int) := by omega
      have i2 : ¬ (dLen : Int) ≤ (n : Int) := by omega
      rcases Nat.eq_zero_or_pos n with h0 | h0
      · have i3 : ¬ (0 : Int) < (n : Int) := by omega
        clear h0
        go_wp2_with fail
        go_ret2
        exact ⟨.inr ⟨hlt, _, _, _, rfl⟩, hK.out⟩
      · have i3 : (0 : Int) < (n : Int) := by omega
        clear h0
        go_wp2_with fail
        go_ret2
        exact ⟨.inr ⟨hlt, _, _, _, rfl⟩, hK.out⟩

end Go.Proofs.YtnfjmngchapdnaaDoor
