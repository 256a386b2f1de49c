import Derived.Test.YtnfjmngchapdnaaGreatDoorMNatBytes
import Derived.Laws.CopyRow
import Derived.Laws.IdiomCopy
import Derived.Test.YtnfjmngchapdnaaGreatDoorMBPr
/- Rows of bytes; copy. -/
namespace Go.Proofs.YtnfjmngchapdnaaGreatDoor
open Go.RowKit

/-- Block b is a row of bytes. -/
def RowB (w : World) (b : Nat) (L : List Nat) : Prop := w.heap[b]? = some (.cells (u8s L).toArray 5 (0, 0))
theorem RowB.lt {w : World} {b : Nat} {L : List Nat} (h : RowB w b L) : b < w.heap.size := lt_of_block h
theorem RowB.keeps {S : List Nat} {w w' : World} {b : Nat} {L : List Nat} (h : RowB w b L) (hk : Keeps S w w') (hb : b ∉ S) : RowB w' b L := blk_keeps h hk hb
theorem RowB.kept {w w' : World} {b : Nat} {L : List Nat} (h : RowB w b L) (hk : Keeps [] w w') : RowB w' b L := h.keeps hk (by simp)
theorem RowB.drew {w : World} {b : Nat} {L : List Nat} (h : RowB w b L) : RowB w.drew b L := h
theorem RowB.cell {w : World} {b : Nat} {L : List Nat} (h : RowB w b L) {i x : Nat} (hx : L[i]? = some x) : w.cell? ⟨b, i, none⟩ = some (.int .u8 (x : Int)) := by
  rw [cell_of_row w b _ _ _ _ h]
  simp [u8s, hx]
theorem RowB.free {w : World} {b : Nat} {L : List Nat} (h : RowB w b L) (i : Nat) : w.frozen? ⟨b, i, none⟩ = false := by
  unfold RowB at h
  simp [World.frozen?, h]
theorem RowB.set {w : World} {b : Nat} {L : List Nat} (h : RowB w b L) (i x : Nat) : RowB (w.setCell ⟨b, i, none⟩ (.int .u8 (x : Int))) b (L.set i x) := by
  have hlt := h.lt
  unfold RowB at *
  have h' : w.heap[b] = .cells (u8s L).toArray 5 (0, 0) := by simpa [Array.getElem?_eq_getElem hlt] using h
  show (w.heap.modify b _)[b]? = _
  rw [Array.getElem?_eq_getElem (by simpa using hlt), Array.getElem_modify_self, h']
  simp [u8s, List.map_set]
theorem RowB.setRow {w : World} {b : Nat} {L : List Nat} (h : RowB w b L) (M : List Nat) : RowB (w.setRow b (u8s M).toArray) b M := by
  unfold RowB at *
  exact setRow_heap w b _ _ _ _ h
theorem RowB.slB {w : World} {b : Nat} {L : List Nat} (h : RowB w b L) (hl : LtB L) {n c : Nat} (hn : L.length = n) (hc : n ≤ c) : SlB w (some ⟨b, 0, none⟩) n c L :=
  ⟨hn, hc, hl, fun _ => ⟨b, 0, rfl, h.lt, fun i hi => by rw [Nat.zero_add]; exact h.cell (List.getElem?_eq_getElem hi)⟩⟩
theorem size_byte : (Tryz.prog.info? 5).map (·.size) = some 1 := by kernel_rfl
theorem u8s_one (L : List Nat) : ∀ v, v ∈ u8s L → v.oneCell' = true := by
  intro v hv
  obtain ⟨x, _, rfl⟩ := List.mem_map.1 hv
  rfl

/-- copy(xs[off:], src). -/
theorem run_copy_bytes {w : World} {b : Nat} {L M : List Nat} (h : RowB w b L) (s os off dLen dCap sLen sCap m : Nat) (hmin : m = Nat.min sLen dLen) (hM : M.length = m) (hm : off + m ≤ L.length) (hsrc : BAt w s os M) :
    ∃ w1, (∀ ty, (Builtin.copy_ #[22, 22] ty #[.slice (some ⟨b, off, none⟩) dLen dCap, .slice (some ⟨s, os, none⟩) sLen sCap]).run Tryz.prog w = .ok (.int .i64 (m : Int)) w1) ∧
      RowB w1 b (L.take off ++ (M ++ L.drop (off + m))) ∧ Keeps [b] w w1 := by
  refine ⟨w.setRow b (u8s (L.take off ++ (M ++ L.drop (off + m)))).toArray, fun ty => ?_, h.setRow _, (Keeps.refl _ _).setRow (by simp) _⟩
  have hlen : (u8s M).length = m := by simp [u8s, hM]
  have hL : (u8s L).length = L.length := by simp [u8s]
  have := run_copy_row Tryz.prog w 22 22 ty 5 b off dLen dCap ⟨s, os, none⟩ sLen sCap (u8s L).toArray 5 (u8s M) und_bytes size_byte h (by rw [hlen, hmin]) (fun j v hj => ?_) (by rw [hlen]; simp [hL]; omega) (u8s_one _)
  · have e : (u8s L).toArray.toList.take off ++ u8s M ++ (u8s L).toArray.toList.drop (off + m) = u8s (L.take off ++ (M ++ L.drop (off + m))) := by simp [u8s, List.map_take, List.map_drop]
    rw [this, hlen, e]
    rfl
  · have hjm : j < M.length := by
      have := (List.getElem?_eq_some_iff.1 hj).1
      rw [hlen] at this; omega
    have hadd : (⟨s, os, none⟩ : Addr).add j = ⟨s, os + j, none⟩ := by unfold Addr.add; split <;> simp_all
    rw [hadd, hsrc j hjm]
    simp only [u8s, List.getElem?_map] at hj
    rw [List.getElem?_eq_getElem hjm] at hj
    exact hj

theorem block_set {w : World} {g : Nat} {cs : Array Value} {t : TypeId} {fr : Nat × Nat} (h : w.heap[g]? = some (.cells cs t fr)) (j : Nat) (v : Value) : (w.setCell ⟨g, j, none⟩ v).heap[g]? = some (.cells (cs.setIfInBounds j v) t fr) := by
  rw [setCell_eq_setRow w g j cs t fr v h]
  exact setRow_heap w g _ _ _ _ h
/-- make([]byte, S). -/
theorem run_make_bytes (w : World) (S : Nat) (hS : S ≤ 100000) :
    ∃ wm, (Instr.makeSlice 22 (.int .i64 (S : Int)) (.int .i64 (S : Int))).run Tryz.prog w = .ok (.slice (some ⟨w.heap.size, 0, none⟩) S S) wm ∧ RowB wm w.heap.size (List.replicate S 0) ∧ Keeps [] w wm := by
  obtain ⟨i0, hi, hz0, hz1, hz2⟩ := info_parts info_byte
  obtain ⟨wm, hmk, hown, hgr⟩ := run_make_full (P := Tryz.prog) w w.heap.size 22 5 i0 (.int .u8 0) 1 und_bytes hi hz0 hz1 .i64 .i64 S (by rw [hz2]; omega) (by unfold maxLen; omega) (Nat.le_refl _)
  refine ⟨wm, hmk, ?_, (Keeps.refl [] w).grown hgr (by simp)⟩
  rcases hown.2 with ⟨h, _⟩ | ⟨g, cap, cur, h, _, hc, _, _, hcs, htk⟩
  · simp at h
  · simp only [Value.slice.injEq, Option.some.injEq, Addr.mk.injEq, and_true, true_and] at h
    obtain ⟨rfl, rfl⟩ := h
    rw [Nat.mul_one] at hcs
    have e : cur = (u8s (List.replicate S 0)).toArray := by
      apply Array.ext'
      have h1 : cur.toList.take (S * 1) = cur.toList := List.take_of_length_le (by simp [hcs])
      rw [h1] at htk
      rw [htk, Nat.mul_one]
      show (madeCells #[Value.int .u8 0] S).toList = _
      rw [toList_madeCells_one]; simp [u8s]
    unfold RowB
    rw [hc, e]

end Go.Proofs.YtnfjmngchapdnaaGreatDoor

/- rsa: DecryptPKCS1v15, DecryptPKCS1v15SessionKey. -/
namespace Go.Proofs.YtnfjmngchapdnaaGreatDoor
open Go.RowKit

/-- What DecryptPKCS1v15 leaves of so many bytes as the modulus has. -/
def DkR (e : Ending) (w' : World) (K : KD) (S v r : Nat) : Prop :=
  (1024 ≤ blen K.N.v ∧ v < K.N.v ∧ ∃ (O T : List Nat) (a : Option Addr) (n c : Nat), Blk S r O ∧ OpensTo O T ∧ SlB w' a n c T ∧ e = .returned (.tuple #[.slice a n c, .nilIface])) ∨
  ((blen K.N.v < 1024 ∨ ¬ v < K.N.v ∨ ∃ O, Blk S r O ∧ Shut O) ∧ ∃ t x, e = .returned (.tuple #[.slice none 0 0, .iface t x]))

theorem SlB.dropped {w : World} {b S : Nat} {O : List Nat} (h : SlB w (some ⟨b, 0, none⟩) S S O) (k : Nat) (hk : k < S) : SlB w (some ⟨b, k, none⟩) (S - k) (S - k) (O.drop k) := by
  obtain ⟨h1, h2, h3, h4⟩ := h
  refine ⟨by simp [h1], Nat.le_refl _, fun x hx => h3 x (List.mem_of_mem_drop hx), fun _ => ?_⟩
  obtain ⟨b', o, e, hb, hB⟩ := h4 (List.ne_nil_of_length_pos (by omega))
  simp only [Option.some.injEq, Addr.mk.injEq, and_true] at e
  obtain ⟨rfl, rfl⟩ := e
  refine ⟨b, k, rfl, hb, ?_⟩
  have := hB.drop k
  rwa [Nat.zero_add] at this
theorem SlB.empty (w : World) (a : Option Addr) (c : Nat) : SlB w a 0 c [] := ⟨rfl, Nat.zero_le _, fun x hx => by simp at hx, fun h => absurd rfl h⟩

set_option maxRecDepth 100000 in
set_option maxHeartbeats 4000000 in
theorem decryptPk_any (K : KD) (s : Option Addr) (mb cb : Nat) (L : List Nat) (rv : Value) (w : World) (h : K.is w) (hs : SlB w s mb cb L) (hmb : mb = (blen K.N.v + 7) / 8) (hmb2 : mb ≤ 1000) :
    Calls Tryz.prog 24 #[rv, .pointer (some ⟨K.pk, 0, none⟩), .slice s mb cb] w fun e w' => DkR e w' K mb (bval L) (bval L ^ K.D % K.N.v) ∧ Keeps [] w w' := by
  obtain ⟨r, hr⟩ : ∃ r, r = bval L ^ K.D % K.N.v := ⟨_, rfl⟩
  have HD : Hid (∀ w1, Keeps [] w w1 → 11 ≤ mb → Calls Tryz.prog 42 #[.pointer (some ⟨K.pk, 0, none⟩), .slice s mb cb] w1 fun e w' => PadR e w' K mb (bval L) r ∧ Keeps [] w1 w') :=
    Lib.hid fun w1 hk h11 => by rw [hr]; exact decPkcs_any K s mb cb L w1 (h.kept hk) (hs.kept hk) hmb h11 hmb2
  rw [← hr]
  have HI := Lib.hid h
  have HMB := Lib.hid hmb
  clear hr h hs hmb
  go_enter Tryz.func24, Tryz.ntmps24
  go_wp2_with fail
  refine (priv_PublicKey K.pk _).mono ?_
  rintro e w1 ⟨rfl, rfl⟩
  go_wp2_with fail
  refine (checkPublicKeySize_c K.pk K.E K.N _ HI.out.pub HI.out.N).mono ?_
  rintro e w1 ⟨⟨v, rfl, ⟨hbl, rfl⟩ | ⟨hbl, t, x, rfl⟩⟩, hk1⟩
  rotate_left
  · have HK := Lib.hid hk1
    clear hk1
    go_wp2
    go_ret2
    exact ⟨.inr ⟨.inl hbl, _, _, rfl⟩, HK.out⟩
  have HK := Lib.hid hk1
  have HDD := Lib.hid (HD.out w1 hk1 (by have := HMB.out; omega))
  have HI1 := Lib.hid (HI.out.kept hk1)
  clear hk1 HD HI
  go_wp2_with fail
  refine HDD.out.mono ?_
  rintro e w2 ⟨⟨h2, b, O, hB, hO, ⟨z, o1, o2, o3, o4, rfl⟩ | ⟨hsh, rfl⟩⟩ | ⟨hno, rfl⟩, hk2⟩
  · have HK2 := Lib.hid (HK.out.trans1 hk2)
    have hzl := o3.lt
    have hBl := hB.1
    have HO := Lib.hid (show OpensTo O (O.drop (z + 1)) from ⟨o1, o2, z, o3, o4, rfl⟩)
    have HB := Lib.hid hB; have HSL := Lib.hid hO
    rw [hBl] at hzl
    have HBL := Lib.hid hBl
    clear o1 o2 o3 hk2 hB hO hBl HDD HI1
    have n1 : ¬ (1 : Int) = 0 := by decide
    by_cases hend : z + 1 < mb
    · have i1 : ¬ (mb : Int) = (z : Int) + 1 := by omega
      have i2 : (z : Int) + 1 ≤ (mb : Int) := by omega
      have i3 : ((z : Int) + 1).toNat = z + 1 := by omega
      go_wp2_with fail
      go_ret2
      exact ⟨.inl ⟨hbl, h2, O, _, _, _, _, HB.out, HO.out, HSL.out.dropped (z + 1) hend, rfl⟩, HK2.out⟩
    · have i1 : mb = z + 1 := by omega
      have HE := Lib.hid (show O.drop (z + 1) = [] from List.drop_of_length_le (by rw [HBL.out]; omega))
      subst i1
      have i2 : ((z + 1 : Nat) : Int) = (z : Int) + 1 := by omega
      go_wp2_with fail
      go_ret2
      exact ⟨.inl ⟨hbl, h2, O, _, _, _, _, HB.out, HO.out, by rw [HE.out]; exact SlB.empty _ _ _, rfl⟩, HK2.out⟩
  · have g0 : w2.cell? ⟨0, 0, none⟩ = some (.iface 124 (.pointer (some K.a0))) := HI1.out.g.kept hk2
    have HK2 := Lib.hid (HK.out.trans1 hk2)
    have HS := Lib.hid (And.intro hB hsh)
    clear hk2 hB hsh hO
    go_wp2_with fail
    refine wp_region_txt [1,0,0] (fun _ => True) (by kernel_rfl) (by kernel_rfl) trivial ?_
    simp only [withMarks]
    repeat (first
      | ((with_reducible refine txt_v (v := ?_) ?_ ?_); (any_goals ((with_reducible refine Yl.mk ?_ ?_); rfl; intro w hSw; (go_simp <;> (try go_bits) <;> (repeat (first | rw [if_pos (by omega)] | rw [if_neg (by omega)])) <;> with_reducible rfl))); try simp only [Act.put, List.setIfInBounds_toArray, List.set_cons_zero, List.set_cons_succ])
      | ((with_reducible refine txt_u ?_ ?_); rfl; try simp only [Act.put, List.setIfInBounds_toArray, List.set_cons_zero, List.set_cons_succ])
      | ((with_reducible refine txt_l (v := ?_) ?_ ?_); (any_goals ((with_reducible refine Reads.mk ?_ ?_); rfl; (go_simp <;> (try go_bits) <;> (repeat (first | rw [if_pos (by omega)] | rw [if_neg (by omega)])) <;> with_reducible rfl))); try simp only [Act.put, List.setIfInBounds_toArray, List.set_cons_zero, List.set_cons_succ])
      | ((with_reducible refine txt_e ?_ ?_); rfl; intro K hK; go_simp; (first | (refine hK _ _ trivial ?_) | ((first | fail); dsimp only; refine hK _ _ trivial ?_)); clear hK K; try simp only [Act.put, List.setIfInBounds_toArray, List.set_cons_zero, List.set_cons_succ]))
    refine txt_nil ?_
    go_wp2
    go_ret2
    exact ⟨.inr ⟨.inr (.inr ⟨O, HS.out⟩), _, _, rfl⟩, HK2.out.drew⟩
  · have HK2 := Lib.hid (HK.out.trans1 hk2)
    clear hk2
    go_wp2
    go_ret2
    exact ⟨.inr ⟨.inr (.inl hno), _, _, rfl⟩, HK2.out⟩

end Go.Proofs.YtnfjmngchapdnaaGreatDoor

/- rsa: ctCopy, DecryptPKCS1v15SessionKey. -/
namespace Go.Proofs.YtnfjmngchapdnaaGreatDoor
open Go.RowKit

set_option maxRecDepth 100000 in
theorem ctCopy_yes (x y : Value) (m : Int) (w w1 : World) (hcp : ∀ ty, (Builtin.copy_ #[22, 22] ty #[x, y]).run Tryz.prog w = .ok (.int .i64 m) w1) :
    Calls Tryz.prog 45 #[.int .i64 1, x, y] w fun e w' => e = .returned (.tuple #[]) ∧ w1 = w' := by
  go_enter Tryz.func45, Tryz.ntmps45
  go_wp2
  go_end0
  exact ⟨rfl, rfl⟩
set_option maxRecDepth 100000 in
theorem ctCopy_no (x y : Value) (w : World) :
    Calls Tryz.prog 45 #[.int .i64 0, x, y] w fun e w' => e = .returned (.tuple #[]) ∧ w = w' := by
  go_enter Tryz.func45, Tryz.ntmps45
  go_wp2
  go_end0
  exact ⟨rfl, rfl⟩

/-- copy(xs[:n], src), xs a row of one's own. -/
theorem run_copy_cur {w : World} {g : Nat} {cur : Array Value} (hg : w.heap[g]? = some (.cells cur 5 (0, 0))) (s os n dCap sCap : Nat) (M : List Nat) (hM : M.length = n) (hn : n ≤ cur.size) (hsrc : BAt w s os M) :
    ∃ (w1 : World) (cur1 : Array Value), (∀ ty, (Builtin.copy_ #[22, 22] ty #[.slice (some ⟨g, 0, none⟩) n dCap, .slice (some ⟨s, os, none⟩) n sCap]).run Tryz.prog w = .ok (.int .i64 (n : Int)) w1) ∧
      w1.heap[g]? = some (.cells cur1 5 (0, 0)) ∧ cur1.toList.take n = u8s M ∧ Keeps [g] w w1 := by
  have hlen : (u8s M).length = n := by simp [u8s, hM]
  refine ⟨w.setRow g (cur.toList.take 0 ++ u8s M ++ cur.toList.drop (0 + (u8s M).length)).toArray, _, fun ty => ?_, setRow_heap w g _ _ _ _ hg, ?_, (Keeps.refl _ _).setRow (by simp) _⟩
  · have := run_copy_row Tryz.prog w 22 22 ty 5 g 0 n dCap ⟨s, os, none⟩ n sCap cur 5 (u8s M) und_bytes size_byte hg (by rw [hlen]; exact (Nat.min_self n).symm) (fun j v hj => ?_) (by rw [hlen]; omega) (u8s_one _)
    · rw [this, hlen]; rfl
    · have hjm : j < M.length := by
        have := (List.getElem?_eq_some_iff.1 hj).1
        rw [hlen] at this; omega
      have hadd : (⟨s, os, none⟩ : Addr).add j = ⟨s, os + j, none⟩ := by unfold Addr.add; split <;> simp_all
      rw [hadd, hsrc j hjm]
      simp only [u8s, List.getElem?_map] at hj
      rw [List.getElem?_eq_getElem hjm] at hj
      exact hj
  · simp [hlen]
theorem SlB.of_cur {w : World} {g n c : Nat} {cur : Array Value} {M : List Nat} (hg : w.heap[g]? = some (.cells cur 5 (0, 0))) (ht : cur.toList.take n = u8s M) (hM : LtB M) (hn : M.length = n) (hc : n ≤ c) : SlB w (some ⟨g, 0, none⟩) n c M := by
  refine ⟨hn, hc, hM, fun _ => ⟨g, 0, rfl, lt_of_block hg, fun i hi => ?_⟩⟩
  have e : (u8s M)[i]? = some (.int .u8 (M[i] : Int)) := by simp [u8s, hi]
  rw [← ht, List.getElem?_take] at e
  split at e
  · simp only [World.cell?, hg, Nat.zero_add]
    rw [← e]; simp
  · simp at e

/-- What DecryptPKCS1v15SessionKey leaves of so many bytes as the modulus has. -/
def SkR (e : Ending) (w' : World) (K : KD) (S v r ns gc : Nat) (ka : Option Addr) (A : List Nat) : Prop :=
  (1024 ≤ blen K.N.v ∧ ns + 11 ≤ S ∧ v < K.N.v ∧ ∃ (O R : List Nat), Blk S r O ∧ SesTo O A R ∧ SlB w' ka ns gc R ∧ e = .returned .nilIface) ∨
  ((blen K.N.v < 1024 ∨ S < ns + 11 ∨ ¬ v < K.N.v) ∧ ∃ t x, e = .returned (.iface t x))

theorem SesTo.shut {O A : List Nat} (h : Shut O) : SesTo O A A := .inr ⟨fun T hT => absurd hT (h T), rfl⟩
theorem SesTo.other {O A : List Nat} {z : Nat} (h : OpensTo O (O.drop (z + 1))) (hne : O.length - (z + 1) ≠ A.length) : SesTo O A A :=
  .inr ⟨fun T hT hl => by have := hT.uniq h; subst this; simp at hl; omega, rfl⟩
theorem SesTo.over {O A : List Nat} {z : Nat} (h : OpensTo O (O.drop (z + 1))) (he : O.length - (z + 1) = A.length) : SesTo O A (O.drop (z + 1)) :=
  .inl ⟨_, h, by simp; omega, rfl⟩
theorem SesTo.nil (O : List Nat) : SesTo O [] [] := by
  by_cases h : ∃ T, OpensTo O T ∧ T.length = 0
  · obtain ⟨T, h1, h2⟩ := h
    have : T = [] := List.length_eq_zero_iff.1 h2
    subst this
    exact .inl ⟨[], h1, rfl, rfl⟩
  · exact .inr ⟨fun T h1 h2 => h ⟨T, h1, h2⟩, rfl⟩
theorem bits_and_ch (v : Int) (p : Prop) [Decidable p] (hv : v = 0 ∨ v = 1) : Go.bits .and .i64 v (if p then 1 else 0) = (if v = 1 ∧ p then 1 else 0) := by
  rcases hv with rfl | rfl <;> by_cases h : p <;> simp [h] <;> decide

set_option maxRecDepth 100000 in
set_option maxHeartbeats 4000000 in
theorem sessionKey_any (K : KD) (s : Option Addr) (mb cb : Nat) (L : List Nat) (rv : Value) (ka : Option Addr) (ns gc g : Nat) (A : List Nat) (w : World) (h : K.is w) (hs : SlB w s mb cb L) (hmb : mb = (blen K.N.v + 7) / 8) (hmb2 : mb ≤ 1000)
    (hA : SlB w ka ns gc A) (hns : ns ≤ 300) (hkey : 0 < ns → ka = some ⟨g, 0, none⟩ ∧ ∃ cur : Array Value, w.heap[g]? = some (.cells cur 5 (0, 0)) ∧ ns ≤ cur.size) :
    Calls Tryz.prog 26 #[rv, .pointer (some ⟨K.pk, 0, none⟩), .slice s mb cb, .slice ka ns gc] w fun e w' => SkR e w' K mb (bval L) (bval L ^ K.D % K.N.v) ns gc ka A ∧ Keeps [g] w w' := by
  obtain ⟨r, hr⟩ : ∃ r, r = bval L ^ K.D % K.N.v := ⟨_, rfl⟩
  have HD : Hid (∀ w1, Keeps [] w w1 → 11 ≤ mb → Calls Tryz.prog 42 #[.pointer (some ⟨K.pk, 0, none⟩), .slice s mb cb] w1 fun e w' => PadR e w' K mb (bval L) r ∧ Keeps [] w1 w') :=
    Lib.hid fun w1 hk h11 => by rw [hr]; exact decPkcs_any K s mb cb L w1 (h.kept hk) (hs.kept hk) hmb h11 hmb2
  rw [← hr]
  have HI := Lib.hid h
  have HMB := Lib.hid hmb; have HA := Lib.hid hA; have HKEY := Lib.hid hkey
  clear hr h hs hmb hA hkey
  go_enter Tryz.func26, Tryz.ntmps26
  go_wp2_with fail
  refine (priv_PublicKey K.pk _).mono ?_
  rintro e w1 ⟨rfl, rfl⟩
  go_wp2_with fail
  refine (checkPublicKeySize_c K.pk K.E K.N _ HI.out.pub HI.out.N).mono ?_
  rintro e w1 ⟨⟨v, rfl, ⟨hbl, rfl⟩ | ⟨hbl, t, x, rfl⟩⟩, hk1⟩
  rotate_left
  · have HK := Lib.hid hk1
    clear hk1
    go_wp2
    go_ret
    exact ⟨.inr ⟨.inl hbl, _, _, rfl⟩, HK.out.mono (by simp)⟩
  have HK := Lib.hid hk1
  have HDD := Lib.hid (HD.out w1 hk1 (by have := HMB.out; omega))
  have HI1 := Lib.hid (HI.out.kept hk1)
  clear hk1 HD HI
  go_wp2_with fail
  refine (priv_PublicKey K.pk _).mono ?_
  rintro e w2 ⟨rfl, rfl⟩
  go_wp2_with fail
  refine (pub_Size_c K.pk K.E K.N _ HI1.out.pub HI1.out.N).mono ?_
  rintro e w2 ⟨rfl, rfl⟩
  rw [← HMB.out]
  by_cases hfit : ns + 11 ≤ mb
  rotate_left
  · have i1 : (mb : Int) - ((ns : Int) + 3 + 8) < 0 := by omega
    have g0 : w1.cell? ⟨0, 0, none⟩ = some (.iface 124 (.pointer (some K.a0))) := HI1.out.g
    clear HDD
    go_wp2_with fail
    go_ret
    exact ⟨.inr ⟨.inr (.inl (by omega)), _, _, rfl⟩, HK.out.mono (by simp)⟩
  have i1 : ¬ (mb : Int) - ((ns : Int) + 3 + 8) < 0 := by omega
  go_wp2_with fail
  refine HDD.out.mono ?_
  rintro e w2 ⟨hP, hk2⟩
  have HK2 := Lib.hid (HK.out.trans1 hk2)
  clear hk2 HDD HI1 HK i1
  rcases hP with ⟨h2, b, O, hB, hO, hv⟩ | ⟨hno, rfl⟩
  rotate_left
  · go_wp2_with fail
    go_ret
    exact ⟨.inr ⟨.inr (.inr hno), _, _, rfl⟩, HK2.out.mono (by simp)⟩
  -- the value 'valid' and the index
  have hvv : ∃ (v ix : Int), e = .returned (.tuple #[.int .i64 v, .slice (some ⟨b, 0, none⟩) mb mb, .int .i64 ix, .nilIface]) ∧ (v = 0 ∨ v = 1) ∧ 0 ≤ ix ∧ ix ≤ (mb : Int) ∧ (v = 1 → ∃ z : Nat, ix = (z : Int) + 1 ∧ OpensTo O (O.drop (z + 1))) ∧ (v = 0 → Shut O) := by
    rcases hv with ⟨z, o1, o2, o3, o4, rfl⟩ | ⟨hsh, rfl⟩
    · have := o3.lt
      have := hB.1
      exact ⟨1, (z : Int) + 1, rfl, .inr rfl, by omega, by omega, fun _ => ⟨z, rfl, o1, o2, z, o3, o4, rfl⟩, fun h => absurd h (by decide)⟩
    · exact ⟨0, 0, rfl, .inl rfl, by omega, by omega, fun h => absurd h (by decide), fun _ => hsh⟩
  obtain ⟨v, ix, rfl, hv01, ix0, ix1, hop, hsh⟩ := hvv
  have HO := Lib.hid hO; have HB := Lib.hid hB; have HOP := Lib.hid hop; have HSH := Lib.hid hsh; have HV := Lib.hid hv01
  clear hv hO hB hop hsh
  obtain ⟨u, hu⟩ : ∃ u : Int, u = (if (mb : Int) - ix = (ns : Int) then 1 else 0) := ⟨_, rfl⟩
  have HU := Lib.hid hu
  obtain ⟨y, hy⟩ : ∃ y : Int, y = Go.bits .and .i64 v u := ⟨_, rfl⟩
  have HY : Hid (y = if v = 1 ∧ (mb : Int) - ix = (ns : Int) then 1 else 0) := Lib.hid (by rw [hy, hu]; exact bits_and_ch v _ hv01)
  have hy' := hy.symm
  clear hu hy hv01
  go_wp2_with fail
  refine (ct_Eq ((mb : Int) - ix) (ns : Int) _).mono ?_
  rintro e w3 ⟨rfl, rfl⟩
  rw [← HU.out]
  clear HU
  have hy01 : (y = 1 ∧ v = 1 ∧ (mb : Int) - ix = (ns : Int)) ∨ (y = 0 ∧ ¬ (v = 1 ∧ (mb : Int) - ix = (ns : Int))) := by
    rw [HY.out]
    by_cases h : v = 1 ∧ (mb : Int) - ix = (ns : Int)
    · rw [if_pos h]; exact .inl ⟨rfl, h⟩
    · rw [if_neg h]; exact .inr ⟨rfl, h⟩
  have HY1 := Lib.hid hy01
  clear hy01 HY
  have HSL := HO.out
  rcases Nat.eq_zero_or_pos ns with hz | hz
  · -- no session key: nothing is copied
    subst hz
    have hA0 : A = [] := List.length_eq_zero_iff.1 HA.out.1
    subst hA0
    have hcp : ∀ ty, (Builtin.copy_ #[22, 22] ty #[.slice ka 0 gc, .slice (some ⟨b, 0, none⟩) 0 0]).run Tryz.prog w2 = .ok (.int .i64 0) w2 := fun ty => run_copy_none w2 _ _ ty _ ka (some ⟨b, 0, none⟩) 0 gc 0 0 und_bytes size_byte rfl
    have HCP := Lib.hid hcp
    clear hcp HSL
    go_wp2_with fail
    rcases HY1.out with ⟨rfl, _⟩ | ⟨rfl, _⟩
    · refine (ctCopy_yes _ _ 0 _ _ HCP.out).mono ?_
      rintro e w3 ⟨rfl, rfl⟩
      go_wp2_with fail
      go_ret
      exact ⟨.inl ⟨hbl, hfit, h2, O, [], HB.out, SesTo.nil O, SlB.empty _ _ _, rfl⟩, HK2.out.mono (by simp)⟩
    · refine (ctCopy_no _ _ _).mono ?_
      rintro e w3 ⟨rfl, rfl⟩
      go_wp2_with fail
      go_ret
      exact ⟨.inl ⟨hbl, hfit, h2, O, [], HB.out, SesTo.nil O, SlB.empty _ _ _, rfl⟩, HK2.out.mono (by simp)⟩
  · obtain ⟨rfl, cur, hJ, hcs⟩ := HKEY.out hz
    have hrow := blk_keeps hJ HK2.out (by simp)
    have hsl2 := HSL.dropped (mb - ns) (by omega)
    rw [show mb - (mb - ns) = ns by omega] at hsl2
    have hle := HSL.1
    obtain ⟨b', o', e, hb', hBat⟩ := hsl2.2.2.2 (List.ne_nil_of_length_pos (by rw [hsl2.1]; omega))
    simp only [Option.some.injEq, Addr.mk.injEq, and_true] at e
    obtain ⟨rfl, rfl⟩ := e
    obtain ⟨w3, cur1, hcp, hr3, ht3, hk3⟩ := run_copy_cur hrow b (mb - ns) ns gc ns _ hsl2.1 hcs hBat
    have hA' : SlB w2 (some ⟨g, 0, none⟩) ns gc A := HA.out.kept HK2.out
    have HCP := Lib.hid hcp; have HR3 := Lib.hid (And.intro hr3 ht3); have HK3 := Lib.hid hk3; have HA2 := Lib.hid hA'; have HM := Lib.hid hsl2
    clear hrow hsl2 hBat hcp hr3 ht3 hk3 HSL hJ hA' hb' hle hcs
    have i2 : ¬ (mb : Int) = (mb : Int) - (ns : Int) := by omega
    have i3 : (0 : Int) ≤ (mb : Int) - (ns : Int) := by omega
    have i4 : (mb : Int) - (ns : Int) ≤ (mb : Int) := by omega
    have i5 : ((mb : Int) - (ns : Int)).toNat = mb - ns := by omega
    have i6 : mb - (mb - ns) = ns := by omega
    go_wp2_with fail
    rcases HY1.out with ⟨rfl, hv1, heq⟩ | ⟨rfl, hne⟩
    · refine (ctCopy_yes _ _ (ns : Int) _ _ HCP.out).mono ?_
      rintro e w4 ⟨rfl, rfl⟩
      obtain ⟨z, hz1, hz2⟩ := HOP.out hv1
      have hzz : mb - ns = z + 1 := by omega
      have hse : SesTo O A (O.drop (mb - ns)) := by
        rw [hzz]
        exact SesTo.over hz2 (by have := HB.out.1; have := HA2.out.1; omega)
      have hsl : SlB w3 (some ⟨g, 0, none⟩) ns gc (O.drop (mb - ns)) := SlB.of_cur HR3.out.1 HR3.out.2 HM.out.2.2.1 HM.out.1 HA2.out.2.1
      have HSE := Lib.hid hse; have HSL := Lib.hid hsl
      have HKF : Hid (Keeps [g] w w3) := Lib.hid ((HK2.out.mono (by simp)).trans HK3.out (by simp))
      clear hz1 hz2 hzz hse hsl heq
      go_wp2_with fail
      go_ret
      exact ⟨.inl ⟨hbl, hfit, h2, O, _, HB.out, HSE.out, HSL.out, rfl⟩, HKF.out⟩
    · refine (ctCopy_no _ _ _).mono ?_
      rintro e w4 ⟨rfl, rfl⟩
      have hse : SesTo O A A := by
        rcases HV.out with h | h
        · exact SesTo.shut (HSH.out h)
        · obtain ⟨z, hz1, hz2⟩ := HOP.out h
          exact SesTo.other hz2 fun he => hne ⟨h, by have := HB.out.1; have := HA2.out.1; have := hz2.len; omega⟩
      have HSE := Lib.hid hse
      clear hse hne
      go_wp2_with fail
      go_ret
      exact ⟨.inl ⟨hbl, hfit, h2, O, _, HB.out, HSE.out, HA2.out, rfl⟩, HK2.out.mono (by simp)⟩

end Go.Proofs.YtnfjmngchapdnaaGreatDoor
