import Derived.Test.YtnfjmngchapdnaaMMulVVW
import Derived.Test.YtnfjmngchapdnaaMSmall
/- bigmod: a Modulus; maybeSubtractModulus, Add, Sub, ExpandFor, resetFor, SubOne, Nat, BitLen, Size. -/
namespace Go.Proofs.Ytnfjmngchapdnaa
open Go.RowKit

def MHdr (w : World) (pm pn : Nat) (odd : Bool) (m0 : Nat) (rv : Value) : Prop :=
  w.heap[pm]? = some (.cells #[.pointer (some ⟨pn, 0, none⟩), .bool odd, .int .u64 (m0 : Int), rv] 87 (0, 0))
theorem MHdr.lt {w : World} {pm pn m0 : Nat} {odd : Bool} {rv : Value} (h : MHdr w pm pn odd m0 rv) : pm < w.heap.size := lt_of_block h
theorem MHdr.c0 {w : World} {pm pn m0 : Nat} {odd : Bool} {rv : Value} (h : MHdr w pm pn odd m0 rv) : w.cell? ⟨pm, 0, none⟩ = some (.pointer (some ⟨pn, 0, none⟩)) := by
  unfold MHdr at h; simp [World.cell?, h]
theorem MHdr.c1 {w : World} {pm pn m0 : Nat} {odd : Bool} {rv : Value} (h : MHdr w pm pn odd m0 rv) : w.cell? ⟨pm, 1, none⟩ = some (.bool odd) := by
  unfold MHdr at h; simp [World.cell?, h]
theorem MHdr.c2 {w : World} {pm pn m0 : Nat} {odd : Bool} {rv : Value} (h : MHdr w pm pn odd m0 rv) : w.cell? ⟨pm, 2, none⟩ = some (.int .u64 (m0 : Int)) := by
  unfold MHdr at h; simp [World.cell?, h]
theorem MHdr.c3 {w : World} {pm pn m0 : Nat} {odd : Bool} {rv : Value} (h : MHdr w pm pn odd m0 rv) : w.cell? ⟨pm, 3, none⟩ = some rv := by
  unfold MHdr at h; simp [World.cell?, h]
theorem MHdr.keeps {S : List Nat} {w w' : World} {pm pn m0 : Nat} {odd : Bool} {rv : Value} (h : MHdr w pm pn odd m0 rv) (hk : Keeps S w w') (hb : pm ∉ S) : MHdr w' pm pn odd m0 rv := blk_keeps h hk hb
theorem MHdr.ne_row {w : World} {pm pn m0 b : Nat} {odd : Bool} {rv : Value} {L : List Nat} (h : MHdr w pm pn odd m0 rv) (hr : Row w b L) : pm ≠ b := by
  rintro rfl
  unfold MHdr at h
  unfold Row at hr
  rw [h] at hr
  have := congrArg (fun x => match x with | some (Obj.cells _ t _) => t | _ => 0) hr
  simp at this
theorem MHdr.ne_hdr {w : World} {pm pn m0 p lb n c : Nat} {odd : Bool} {rv : Value} (h : MHdr w pm pn odd m0 rv) (hr : Hdr w p lb n c) : pm ≠ p := by
  rintro rfl
  unfold MHdr at h
  unfold Hdr at hr
  rw [h] at hr
  have := congrArg (fun x => match x with | some (Obj.cells _ t _) => t | _ => 0) hr
  simp at this

/-- A modulus at pm: its Nat at pn, the limbs in ln, n of them. -/
structure ModB (w : World) (pm pn ln n m : Nat) (odd : Bool) (m0 : Nat) (rv : Value) : Prop where
  hdr : MHdr w pm pn odd m0 rv
  nat : NatV w pn ln n 32 m
theorem ModB.keeps {S : List Nat} {w w' : World} {pm pn ln n m m0 : Nat} {odd : Bool} {rv : Value} (h : ModB w pm pn ln n m odd m0 rv) (hk : Keeps S w w') (h1 : pm ∉ S) (h2 : pn ∉ S) (h3 : ln ∉ S) : ModB w' pm pn ln n m odd m0 rv :=
  ⟨h.hdr.keeps hk h1, h.nat.keeps hk h2 h3⟩
theorem ModB.kept {w w' : World} {pm pn ln n m m0 : Nat} {odd : Bool} {rv : Value} (h : ModB w pm pn ln n m odd m0 rv) (hk : Keeps [] w w') : ModB w' pm pn ln n m odd m0 rv := h.keeps hk (by simp) (by simp) (by simp)
theorem NatV.row' {w : World} {p lb n c v : Nat} (h : NatV w p lb n c v) : ∃ L, Row w lb L := by
  obtain ⟨_, L, J, h1, _⟩ := h; exact ⟨_, h1⟩
theorem ModB.ne_row {w : World} {pm pn ln n m m0 p lb k c v : Nat} {odd : Bool} {rv : Value} (h : ModB w pm pn ln n m odd m0 rv) (hx : NatV w p lb k c v) : pm ≠ lb := by
  obtain ⟨L, hL⟩ := hx.row'; exact h.hdr.ne_row hL
theorem ModB.ne_hdr {w : World} {pm pn ln n m m0 p lb k c v : Nat} {odd : Bool} {rv : Value} (h : ModB w pm pn ln n m odd m0 rv) (hx : NatV w p lb k c v) : pm ≠ p := h.hdr.ne_hdr hx.hdr
theorem NatV.ne2 {w : World} {p lb n c v q lc m d u : Nat} (h : NatV w p lb n c v) (k : NatV w q lc m d u) : p ≠ lc := by
  obtain ⟨L, hL⟩ := k.row'; exact h.hdr.ne hL
/-- Two Nats whose limbs lie apart are at two places. -/
theorem NatV.ne_p {w : World} {p lb n c v q lc m d u : Nat} (h : NatV w p lb n c v) (k : NatV w q lc m d u) (hl : lb ≠ lc) : p ≠ q := by
  rintro rfl
  have h1 := h.hdr
  have h2 := k.hdr
  unfold Hdr at h1 h2
  have h3 := h1.symm.trans h2
  have h4 := congrArg (fun o : Option Obj => match o with | some (Obj.cells c _ _) => (match (c[0]? : Option Value) with | some (Value.slice (some a) _ _) => a.block | _ => 0) | _ => 0) h3
  exact hl h4
/-- A block that is new. -/
theorem NatV.old {w : World} {p lb n c v x : Nat} (h : NatV w p lb n c v) (hx : w.heap.size ≤ x) : p ≠ x ∧ lb ≠ x := ⟨by have := h.plt; omega, by have := h.blt; omega⟩
theorem ModB.old {w : World} {pm pn ln n m m0 x : Nat} {odd : Bool} {rv : Value} (h : ModB w pm pn ln n m odd m0 rv) (hx : w.heap.size ≤ x) : pm ≠ x ∧ pn ≠ x ∧ ln ≠ x :=
  ⟨by have := h.hdr.lt; omega, (h.nat.old hx).1, (h.nat.old hx).2⟩

set_option maxRecDepth 100000 in
set_option maxHeartbeats 1000000 in
theorem maybeSub {pr : Prop} (p lb n c v al pm pn ln m m0 : Nat) (odd : Bool) (rv : Value) (w : World) (hx : NatV w p lb n c v) (hal : Ch pr al) (hm : ModB w pm pn ln n m odd m0 rv) :
    Calls Try.prog 81 #[.pointer (some ⟨p, 0, none⟩), .int .u64 (al : Int), .pointer (some ⟨pm, 0, none⟩)] w fun e w' =>
      e = .returned (.tuple #[]) ∧ ∃ v', (m ≤ v → v' + m = v) ∧ (v < m → pr → v' + m = v + BB ^ n) ∧ (v < m → ¬ pr → v' = v) ∧ NatV w' p lb n c v' ∧ Keeps [lb] w w' := by
  have hn32 := hm.nat.le
  go_enter Try.func81, Try.ntmps81
  go_wp2_with fail
  refine (newNat_any _).mono ?_
  rintro e w1 ⟨pt, lt, rfl, ht, hpt, hlt, hk1⟩
  have o1 := hx.old hpt; have o2 := hx.old hlt; have o3 := hm.old hpt; have o4 := hm.old hlt
  have hx1 := hx.kept hk1
  have hm1 := hm.kept hk1
  go_wp2_with fail
  refine (nat_set pt lt p lb 0 n 32 c 0 v _ ht hx1 hn32 (by omega) o1.1 o2.1 o1.2 o2.2).mono ?_
  rintro e w2 ⟨rfl, ht2, hk2⟩
  have hx2 := hx1.keeps hk2 (by simp [o1.1, o2.1]) (by simp [o1.2, o2.2])
  have hm2 := hm1.keeps hk2 (by simp [o3.1, o4.1]) (by simp [o3.2.1, o4.2.1]) (by simp [o3.2.2, o4.2.2])
  have cm := hm2.hdr.c0
  go_wp2_with fail
  refine (nat_sub pt lt pn ln n 32 32 v m _ ht2 hm2.nat (by omega)).mono ?_
  rintro e w3 ⟨t', d, rfl, hd, hv, ht3, hk3⟩
  have hx3 := hx2.keeps hk3 (by simp [o2.1]) (by simp [o2.2])
  have hmlt := hm2.nat.lt
  have hvlt := hx3.lt
  have htlt := ht3.lt
  have hch : Ch (v < m) d := ⟨hd, by
    have d01 : d = 0 ∨ d = 1 := by omega
    rcases d01 with rfl | rfl <;> simp at hv ⊢ <;> omega⟩
  have Hv := Lib.hid hv
  clear hv cm
  go_wp2_with fail
  refine (not_any d hch _).mono ?_
  rintro e w4 ⟨r, rfl, hr, rfl⟩
  obtain ⟨k, hkor, hkch⟩ := or_ch hr hal
  go_wp2_with fail
  refine (nat_assign p lb pt lt n c 32 v t' k _ hx3 ht3 o2.2 hkch (by omega)).mono ?_
  rintro e w5 ⟨v', rfl, hy1, hy2, hx5, hk5⟩
  have hkk : Keeps [lb] w w5 := by
    have a1 : Keeps [lb] w w1 := hk1.mono (by simp)
    have a2 : Keeps [lb] w w2 := a1.trans hk2 (by intro x hx hlt'; simp at hx; rcases hx with rfl | rfl <;> omega)
    have a3 : Keeps [lb] w w3 := a2.trans hk3 (by intro x hx hlt'; simp at hx; subst hx; omega)
    exact a3.trans1 hk5
  have hfin : (m ≤ v → v' + m = v) ∧ (v < m → pr → v' + m = v + BB ^ n) ∧ (v < m → ¬ pr → v' = v) := by
    have hv := Hv.out
    refine ⟨fun h => ?_, fun h hp => ?_, fun h hp => ?_⟩
    · have := hy1 (.inl (by omega))
      have d0 := hch.no (by omega)
      subst d0 this
      simpa using hv
    · have := hy1 (.inr hp)
      have d1 := hch.yes h
      subst d1 this
      simpa using hv
    · exact hy2 (by simp [h, hp])
  have Hfin := Lib.hid hfin
  clear hfin hy1 hy2
  go_wp2
  go_end0
  exact ⟨rfl, v', Hfin.out.1, Hfin.out.2.1, Hfin.out.2.2, hx5, hkk⟩

theorem Keeps.app {S T : List Nat} {a b c : World} (h : Keeps S a b) (k : Keeps T b c) : Keeps (S ++ T) a c :=
  (h.mono fun _ hx _ => List.mem_append_left _ hx).trans k fun _ hx _ => List.mem_append_right _ hx

set_option maxRecDepth 100000 in
set_option maxHeartbeats 1000000 in
theorem nat_Add (p lb q lc n c c' v u pm pn ln m m0 : Nat) (odd : Bool) (rv : Value) (w : World) (hx : NatV w p lb n c v) (hy : NatV w q lc n c' u) (hm : ModB w pm pn ln n m odd m0 rv) (hl : ln ≠ lb) (hv : v < m) (hu : u < m) :
    Calls Try.prog 84 #[.pointer (some ⟨p, 0, none⟩), .pointer (some ⟨q, 0, none⟩), .pointer (some ⟨pm, 0, none⟩)] w fun e w' =>
      e = .returned (.pointer (some ⟨p, 0, none⟩)) ∧ NatV w' p lb n c ((v + u) % m) ∧ Keeps [lb] w w' := by
  have hn32 := hm.nat.le
  have hmlt := hm.nat.lt
  have n1 := hm.ne_row hx
  have n2 := hm.nat.ne2 hx
  go_enter Try.func84, Try.ntmps84
  go_wp2_with fail
  refine (nat_add p lb q lc n c c' v u _ hx hy (by omega)).mono ?_
  rintro e w1 ⟨v1, d, rfl, hd, he, hx1, hk1⟩
  have hm1 := hm.keeps hk1 (by simpa using n1) (by simpa using n2) (by simpa using hl)
  have hch : Ch (d = 1) d := ⟨hd, Iff.rfl⟩
  have He := Lib.hid he; clear he
  go_wp2_with fail
  refine (maybeSub p lb n c v1 d pm pn ln m m0 odd rv _ hx1 hch hm1).mono ?_
  rintro e w2 ⟨rfl, v', h1, h2, h3, hx2, hk2⟩
  have hkk := hk1.trans1 hk2
  have hfin : v' = (v + u) % m := by
    have he := He.out
    have hx1lt := hx1.lt
    have d01 : d = 0 ∨ d = 1 := by omega
    have hlt : v + u < 2 * m := by omega
    have hmod : (v + u) % m = if v + u < m then v + u else v + u - m := by
      split
      · exact Nat.mod_eq_of_lt (by omega)
      · rw [Nat.mod_eq_sub_mod (by omega), Nat.mod_eq_of_lt (by omega)]
    rw [hmod]
    rcases d01 with rfl | rfl
    · simp only [Nat.zero_mul, Nat.add_zero] at he
      by_cases hc : m ≤ v1
      · have := h1 hc; split <;> omega
      · have := h3 (by omega) (by omega); split <;> omega
    · simp only [Nat.one_mul] at he
      have := h2 (by omega) rfl; split <;> omega
  have Hfin := Lib.hid hfin
  clear hfin h1 h2 h3
  go_wp2
  go_ret
  exact ⟨rfl, by rw [← Hfin.out]; exact hx2, hkk⟩

set_option maxRecDepth 100000 in
set_option maxHeartbeats 1000000 in
theorem nat_Sub (p lb q lc n c c' v u pm pn ln m m0 : Nat) (odd : Bool) (rv : Value) (w : World) (hx : NatV w p lb n c v) (hy : NatV w q lc n c' u) (hm : ModB w pm pn ln n m odd m0 rv) (hl : ln ≠ lb) (hu : u ≤ v + m) :
    Calls Try.prog 63 #[.pointer (some ⟨p, 0, none⟩), .pointer (some ⟨q, 0, none⟩), .pointer (some ⟨pm, 0, none⟩)] w fun e w' =>
      e = .returned (.pointer (some ⟨p, 0, none⟩)) ∧ ∃ v', (u ≤ v → v' + u = v) ∧ (v < u → v' + u = v + m) ∧ NatV w' p lb n c v' ∧ Keeps [lb] w w' := by
  have hn32 := hm.nat.le
  have hmlt := hm.nat.lt
  have hult := hy.lt
  have hvlt := hx.lt
  have n1 := hm.ne_row hx
  have n2 := hm.nat.ne2 hx
  go_enter Try.func63, Try.ntmps63
  go_wp2_with fail
  refine (nat_sub p lb q lc n c c' v u _ hx hy (by omega)).mono ?_
  rintro e w1 ⟨v1, d, rfl, hd, he, hx1, hk1⟩
  have hm1 := hm.keeps hk1 (by simpa using n1) (by simpa using n2) (by simpa using hl)
  have hx1lt := hx1.lt
  have hch : Ch (v < u) d := ⟨hd, by
    have d01 : d = 0 ∨ d = 1 := by omega
    rcases d01 with rfl | rfl <;> simp at he ⊢ <;> omega⟩
  have He := Lib.hid he; clear he
  go_wp2_with fail
  refine (newNat_any _).mono ?_
  rintro e w2 ⟨pt, lt, rfl, ht, hpt, hlt, hk2⟩
  have o1 := hx1.old hpt; have o2 := hx1.old hlt; have o3 := hm1.old hpt; have o4 := hm1.old hlt
  have hx2 := hx1.kept hk2
  have hm2 := hm1.kept hk2
  go_wp2_with fail
  refine (nat_set pt lt p lb 0 n 32 c 0 v1 _ ht hx2 hn32 (by omega) o1.1 o2.1 o1.2 o2.2).mono ?_
  rintro e w3 ⟨rfl, ht3, hk3⟩
  have hx3 := hx2.keeps hk3 (by simp [o1.1, o2.1]) (by simp [o1.2, o2.2])
  have hm3 := hm2.keeps hk3 (by simp [o3.1, o4.1]) (by simp [o3.2.1, o4.2.1]) (by simp [o3.2.2, o4.2.2])
  have cm := hm3.hdr.c0
  go_wp2_with fail
  refine (nat_add pt lt pn ln n 32 32 v1 m _ ht3 hm3.nat (by omega)).mono ?_
  rintro e w4 ⟨t', d', rfl, hd', he', ht4, hk4⟩
  have hx4 := hx3.keeps hk4 (by simp [o2.1]) (by simp [o2.2])
  have htlt := ht4.lt
  have He' := Lib.hid he'; clear he' cm
  go_wp2_with fail
  refine (nat_assign p lb pt lt n c 32 v1 t' d _ hx4 ht4 o2.2 hch (by omega)).mono ?_
  rintro e w5 ⟨v', rfl, hy1, hy2, hx5, hk5⟩
  have hs1 := hk1.size
  have hs2 := hk2.size
  have hkk : Keeps [lb] w w5 := by
    have a2 : Keeps [lb] w w2 := hk1.trans hk2 (by simp)
    have a3 : Keeps [lb] w w3 := a2.trans hk3 (by intro x hx hlt'; simp at hx; rcases hx with rfl | rfl <;> omega)
    have a4 : Keeps [lb] w w4 := a3.trans hk4 (by intro x hx hlt'; simp at hx; subst hx; omega)
    exact a4.trans1 hk5
  have hfin : (u ≤ v → v' + u = v) ∧ (v < u → v' + u = v + m) := by
    have he := He.out
    have he' := He'.out
    refine ⟨fun h => ?_, fun h => ?_⟩
    · have d0 := hch.no (by omega)
      have := hy2 (by omega)
      subst d0 this
      simpa using he
    · have d1 := hch.yes h
      have := hy1 h
      subst d1 this
      simp only [Nat.one_mul] at he
      have d01 : d' = 0 ∨ d' = 1 := by omega
      rcases d01 with rfl | rfl
      · simp only [Nat.zero_mul, Nat.add_zero] at he'; omega
      · simp only [Nat.one_mul] at he'; omega
  have Hfin := Lib.hid hfin
  clear hfin hy1 hy2
  go_wp2
  go_ret
  exact ⟨rfl, v', Hfin.out.1, Hfin.out.2, hx5, hkk⟩

set_option maxRecDepth 100000 in
set_option maxHeartbeats 1000000 in
theorem nat_ExpandFor (p lb k v pm pn ln n m m0 : Nat) (odd : Bool) (rv : Value) (w : World) (hx : NatV w p lb k 32 v) (hm : ModB w pm pn ln n m odd m0 rv) (hk : k ≤ n) (hk32 : k < 32) :
    Calls Try.prog 56 #[.pointer (some ⟨p, 0, none⟩), .pointer (some ⟨pm, 0, none⟩)] w fun e w' =>
      e = .returned (.pointer (some ⟨p, 0, none⟩)) ∧ NatV w' p lb n 32 v ∧ Keeps [p, lb] w w' := by
  have hn32 := hm.nat.le
  have c0 := hm.hdr.c0
  have c1 := hm.nat.hdr.cell
  go_enter Try.func56, Try.ntmps56
  go_wp2_with fail
  refine (nat_expand p lb k 32 v n _ hx hk hn32 hk32 (by omega)).mono ?_
  rintro e w1 ⟨rfl, hx1, hk1⟩
  go_wp2
  go_ret
  exact ⟨rfl, hx1, hk1⟩

set_option maxRecDepth 100000 in
set_option maxHeartbeats 1000000 in
theorem nat_resetFor (p lb k c v pm pn ln n m m0 : Nat) (odd : Bool) (rv : Value) (w : World) (hx : NatV w p lb k c v) (hm : ModB w pm pn ln n m odd m0 rv) (hk : n ≤ c) (hc : c ≤ 1000) :
    Calls Try.prog 50 #[.pointer (some ⟨p, 0, none⟩), .pointer (some ⟨pm, 0, none⟩)] w fun e w' =>
      e = .returned (.pointer (some ⟨p, 0, none⟩)) ∧ NatV w' p lb n c 0 ∧ Keeps [p, lb] w w' := by
  have c0 := hm.hdr.c0
  have c1 := hm.nat.hdr.cell
  go_enter Try.func50, Try.ntmps50
  go_wp2_with fail
  refine (nat_reset p lb k c v n _ hx hk hc).mono ?_
  rintro e w1 ⟨rfl, hx1, hk1⟩
  go_wp2
  go_ret
  exact ⟨rfl, hx1, hk1⟩

end Go.Proofs.Ytnfjmngchapdnaa

/- bigmod: SubOne, Nat, BitLen, Size. -/
namespace Go.Proofs.Ytnfjmngchapdnaa
open Go.RowKit

theorem NatV.set0 {w : World} {p lb n c : Nat} (h : NatV w p lb n c 0) (hn : 0 < n) (y : Nat) (hy : y < BB) : NatV (w.setCell ⟨lb, 0, none⟩ (.int .u64 (y : Int))) p lb n c y := by
  have hne := h.ne
  obtain ⟨hh, L, J, h1, h2, h3, h4, h5⟩ := h
  have hL : L = List.replicate n 0 := val_inj h4 (Lt.replicate n) (by simpa using h2) (by rw [h5, val_replicate])
  refine ⟨hh.other (a := ⟨lb, 0, none⟩) hne _, L.set 0 y, J, ?_, by simpa using h2, by simpa using h3, h4.set _ _ hy, ?_⟩
  · have := h1.set 0 y
    rw [List.set_append_left _ _ (by omega)] at this; exact this
  · have e := val_set L 0 y (by omega)
    have e2 : L[0]'(by omega) = 0 := by simp [hL]
    rw [e2, h5] at e
    simpa using e
theorem NatV.free0 {w : World} {p lb n c v : Nat} (h : NatV w p lb n c v) (i : Nat) : w.frozen? ⟨lb, i, none⟩ = false := by
  obtain ⟨_, L, J, h1, _⟩ := h; exact h1.free i
theorem NatV.cell0 {w : World} {p lb n c v : Nat} (h : NatV w p lb n c v) (hn : 0 < n) : ∃ x : Nat, w.cell? ⟨lb, 0, none⟩ = some (.int .u64 (x : Int)) ∧ x = v % BB := by
  obtain ⟨_, L, J, h1, h2, h3, h4, h5⟩ := h
  refine ⟨_, by simpa using h1.cell 0 (by simp; omega), ?_⟩
  rw [List.getElem_append_left (by omega), ← h5]
  cases L with
  | nil => simp at h2; omega
  | cons x L => simp only [val, List.getElem_cons_zero, Nat.add_mul_mod_self_left]; exact (Nat.mod_eq_of_lt h4.head).symm
theorem ModB.npos {w : World} {pm pn ln n m m0 : Nat} {odd : Bool} {rv : Value} (h : ModB w pm pn ln n m odd m0 rv) (hm : 0 < m) : 0 < n := by
  rcases Nat.eq_zero_or_pos n with h0 | h0
  · subst h0; have := h.nat.lt; simp at this; omega
  · exact h0

set_option maxRecDepth 100000 in
set_option maxHeartbeats 1000000 in
theorem nat_SubOne (p lb n c v pm pn ln m m0 : Nat) (odd : Bool) (rv : Value) (w : World) (hx : NatV w p lb n c v) (hm : ModB w pm pn ln n m odd m0 rv) (hl : ln ≠ lb) (hm1 : 0 < m) (hv : 0 < v) :
    Calls Try.prog 53 #[.pointer (some ⟨p, 0, none⟩), .pointer (some ⟨pm, 0, none⟩)] w fun e w' =>
      e = .returned (.pointer (some ⟨p, 0, none⟩)) ∧ NatV w' p lb n c (v - 1) ∧ Keeps [lb] w w' := by
  have hn0 := hm.npos hm1
  go_enter Try.func53, Try.ntmps53
  go_wp2_with fail
  refine (newNat_any _).mono ?_
  rintro e w1 ⟨pt, lt, rfl, ht, hpt, hlt, hk1⟩
  have o1 := hx.old hpt; have o2 := hx.old hlt; have o3 := hm.old hpt; have o4 := hm.old hlt
  have hm1' := hm.kept hk1
  go_wp2_with fail
  refine (nat_ExpandFor pt lt 0 0 pm pn ln n m m0 odd rv _ ht hm1' (by omega) (by omega)).mono ?_
  rintro e w2 ⟨rfl, ht2, hk2⟩
  have hx2 := (hx.kept hk1).keeps hk2 (by simp [o1.1, o2.1]) (by simp [o1.2, o2.2])
  have hm2 := hm1'.keeps hk2 (by simp [o3.1, o4.1]) (by simp [o3.2.1, o4.2.1]) (by simp [o3.2.2, o4.2.2])
  have c1 := ht2.hdr.cell
  have f1 := ht2.free0 0
  obtain ⟨x0, c0, _⟩ := ht2.cell0 hn0
  have ht3 := ht2.set0 hn0 1 (by unfold BB; omega)
  have hk3 : Keeps [lt] w2 (w2.setCell ⟨lt, 0, none⟩ (.int .u64 ((1 : Nat) : Int))) := (Keeps.refl _ _).setCell (by simp) _
  have hx3 := hx2.keeps hk3 (by simp [o2.1]) (by simp [o2.2])
  have hm3 := hm2.keeps hk3 (by simp [o4.1]) (by simp [o4.2.1]) (by simp [o4.2.2])
  have i0 : (0 : Int) < (n : Int) := by omega
  go_wp2_with fail
  refine (nat_Sub p lb pt lt n c 32 v 1 pm pn ln m m0 odd rv _ hx3 ht3 hm3 hl (by omega)).mono ?_
  rintro e w4 ⟨rfl, v', h1, h2, hx4, hk4⟩
  have e1 : v' = v - 1 := by have := h1 (by omega); omega
  subst e1
  have hkk : Keeps [lb] w w4 := by
    have a1 : Keeps [lb] w w1 := hk1.mono (by simp)
    have a2 : Keeps [lb] w w2 := a1.trans hk2 (by intro x hx hlt'; simp at hx; rcases hx with rfl | rfl <;> omega)
    have a3 := a2.trans hk3 (by intro x hx hlt'; simp at hx; subst hx; omega)
    exact a3.trans1 hk4
  clear h1 h2
  go_wp2
  go_ret
  exact ⟨rfl, hx4, hkk⟩

set_option maxRecDepth 100000 in
set_option maxHeartbeats 1000000 in
theorem mod_Nat (pm pn ln n m m0 : Nat) (odd : Bool) (rv : Value) (w : World) (hm : ModB w pm pn ln n m odd m0 rv) :
    Calls Try.prog 34 #[.pointer (some ⟨pm, 0, none⟩)] w fun e w' =>
      ∃ p lb : Nat, e = .returned (.pointer (some ⟨p, 0, none⟩)) ∧ NatV w' p lb n 32 m ∧ w.heap.size ≤ p ∧ w.heap.size ≤ lb ∧ Keeps [] w w' := by
  have hn32 := hm.nat.le
  go_enter Try.func34, Try.ntmps34
  go_wp2_with fail
  refine (newNat_any _).mono ?_
  rintro e w1 ⟨pt, lt, rfl, ht, hpt, hlt, hk1⟩
  have o3 := hm.old hpt; have o4 := hm.old hlt
  have hm1 := hm.kept hk1
  have c0 := hm1.hdr.c0
  go_wp2_with fail
  refine (nat_set pt lt pn ln 0 n 32 32 0 m _ ht hm1.nat hn32 (by omega) o3.2.1 o4.2.1 o3.2.2 o4.2.2).mono ?_
  rintro e w2 ⟨rfl, ht2, hk2⟩
  have hkk : Keeps [] w w2 := hk1.trans hk2 (by intro x hx hlt'; simp at hx; rcases hx with rfl | rfl <;> omega)
  go_wp2
  go_ret
  exact ⟨pt, lt, rfl, ht2, hpt, hlt, hkk⟩

set_option maxHeartbeats 1000000 in
theorem mod_BitLen (pm pn ln n m m0 : Nat) (odd : Bool) (rv : Value) (w : World) (hm : ModB w pm pn ln n m odd m0 rv) :
    Calls Try.prog 49 #[.pointer (some ⟨pm, 0, none⟩)] w fun e w' =>
      e = .returned (.int .i64 (blen m : Int)) ∧ w = w' := by
  have hn32 := hm.nat.le
  have c0 := hm.hdr.c0
  go_enter Try.func49, Try.ntmps49
  go_wp2_with fail
  refine (nat_BitLen pn ln n 32 m _ hm.nat (by omega)).mono ?_
  rintro e w1 ⟨rfl, rfl⟩
  go_wp2
  go_ret
  exact ⟨rfl, rfl⟩

theorem blen_le_n {n m : Nat} (h : m < BB ^ n) : blen m ≤ 64 * n := blen_le_of_lt (by rw [← BB_pow]; exact h)

set_option maxHeartbeats 1000000 in
theorem mod_Size (pm pn ln n m m0 : Nat) (odd : Bool) (rv : Value) (w : World) (hm : ModB w pm pn ln n m odd m0 rv) :
    Calls Try.prog 44 #[.pointer (some ⟨pm, 0, none⟩)] w fun e w' =>
      e = .returned (.int .i64 (((blen m + 7) / 8 : Nat) : Int)) ∧ w = w' := by
  have hn32 := hm.nat.le
  have hb := blen_le_n hm.nat.lt
  go_enter Try.func44, Try.ntmps44
  go_wp2_with fail
  refine (mod_BitLen pm pn ln n m m0 odd rv _ hm).mono ?_
  rintro e w1 ⟨rfl, rfl⟩
  go_wp2
  go_ret
  exact ⟨ret_int (by omega), rfl⟩

end Go.Proofs.Ytnfjmngchapdnaa

/- bigmod: minusInverseModW. -/
namespace Go.Proofs.Ytnfjmngchapdnaa
open Go.RowKit

def Dk : Nat → Int
  | 0 => 8
  | 1 => 64
  | 2 => 4096
  | 3 => 16777216
  | 4 => 281474976710656
  | _ => 18446744073709551616
theorem Dk_sq : ∀ k, k < 5 → Dk (k + 1) ∣ Dk k * Dk k := by
  intro k hk
  match k, hk with
  | 0, _ => exact ⟨1, by decide⟩
  | 1, _ => exact ⟨1, by decide⟩
  | 2, _ => exact ⟨1, by decide⟩
  | 3, _ => exact ⟨1, by decide⟩
  | 4, _ => exact ⟨4294967296, by decide⟩
theorem Dk_B : ∀ k, k ≤ 5 → Dk k ∣ 18446744073709551616 := by
  intro k hk
  match k, hk with
  | 0, _ => exact ⟨2305843009213693952, by decide⟩
  | 1, _ => exact ⟨288230376151711744, by decide⟩
  | 2, _ => exact ⟨4503599627370496, by decide⟩
  | 3, _ => exact ⟨1099511627776, by decide⟩
  | 4, _ => exact ⟨65536, by decide⟩
  | 5, _ => exact ⟨1, by decide⟩

theorem sq_ident (x z q B : Int) : x * (z * (2 - x * z) - B * q) - 1 = -((x * z - 1) * (x * z - 1)) - B * (q * x) := by
  have e1 : x * (z * (2 - x * z) - B * q) = (x * z) * (2 - x * z) - B * (q * x) := by
    rw [Int.mul_sub, ← Int.mul_assoc x z, Int.mul_comm x (B * q), Int.mul_assoc B q x]
  rw [e1]
  generalize x * z = a
  generalize B * (q * x) = b
  have e2 : a * (2 - a) = 2 * a - a * a := by rw [Int.mul_sub]; omega
  have e3 : (a - 1) * (a - 1) = a * a - 2 * a + 1 := by
    rw [Int.sub_mul, Int.mul_sub]; omega
  rw [e2, e3]
  omega

theorem inv_step {x z : Int} {k : Nat} (hk : k < 5) (h : Dk k ∣ x * z - 1) :
    Dk (k + 1) ∣ x * ((z * ((2 - (x * z) % 18446744073709551616) % 18446744073709551616)) % 18446744073709551616) - 1 := by
  have e : (z * ((2 - (x * z) % 18446744073709551616) % 18446744073709551616)) % 18446744073709551616 = (z * (2 - x * z)) % 18446744073709551616 := by
    rw [Int.mul_emod, Int.emod_emod, Int.sub_emod, Int.emod_emod, ← Int.sub_emod, ← Int.mul_emod]
  rw [e]
  have e2 := Int.emod_add_mul_ediv (z * (2 - x * z)) 18446744073709551616
  have e3 : (z * (2 - x * z)) % 18446744073709551616 = z * (2 - x * z) - 18446744073709551616 * (z * (2 - x * z) / 18446744073709551616) := by omega
  rw [e3, sq_ident]
  refine Int.dvd_sub (Int.dvd_neg.2 (Int.dvd_trans (Dk_sq k hk) (Int.mul_dvd_mul h h))) ?_
  exact Int.dvd_trans (Dk_B (k + 1) (by omega)) (Int.dvd_mul_right _ _)

theorem inv_start {x : Nat} (hx : x % 2 = 1) : Dk 0 ∣ (x : Int) * x - 1 := by
  have h8 : x % 8 = 1 ∨ x % 8 = 3 ∨ x % 8 = 5 ∨ x % 8 = 7 := by omega
  have e : x = 8 * (x / 8) + x % 8 := by omega
  have key : ∀ r : Nat, x % 8 = r → (r * r) % 8 = 1 → (x * x) % 8 = 1 := by
    intro r hr h
    rw [Nat.mul_mod, hr, h]
  have h1 : (x * x) % 8 = 1 := by
    rcases h8 with h | h | h | h
    · exact key 1 h (by decide)
    · exact key 3 h (by decide)
    · exact key 5 h (by decide)
    · exact key 7 h (by decide)
  refine Int.dvd_of_emod_eq_zero ?_
  show ((x : Int) * x - 1) % 8 = 0
  have h2 : ((x * x : Nat) : Int) = (x : Int) * x := Int.natCast_mul x x
  rw [← h2]
  omega

set_option maxRecDepth 100000 in
set_option maxHeartbeats 1000000 in
theorem minusInverse_any (x : Nat) (hx : x < BB) (ho : x % 2 = 1) (w : World) :
    Calls Try.prog 67 #[.int .u64 (x : Int)] w fun e w' => (∃ m0 : Nat, e = .returned (.int .u64 (m0 : Int)) ∧ m0 < BB ∧ (m0 * x + 1) % BB = 0) ∧ w = w' := by
  have h0 := Lib.hid (inv_start ho)
  have hx' : (x : Int) < 18446744073709551616 := by unfold BB at hx; omega
  have HX := Lib.hid hx'
  clear hx hx' ho
  go_enter Try.func67, Try.ntmps67
  go_wp2
  go_loop [3, 4] (fun y i => ∃ (k : Nat) (z : Int), i = .int .i64 k ∧ y = .int .u64 z ∧ k ≤ 5 ∧ Hid (0 ≤ z ∧ z < 18446744073709551616) ∧ Hid (Dk k ∣ (x : Int) * z - 1)) (fun _ i => 5 - (intOf i).toNat)
  case atStart => exact ⟨0, x, rfl, rfl, by omega, ⟨by omega, HX.out⟩, h0⟩
  case round =>
    obtain ⟨k, z, rfl, rfl, hk, hz, hd⟩ := hrel
    by_cases hlt : k < 5
    · have i1 : (k : Int) < 5 := by omega
      go_wp2
      go_round
      case measure => simp [intOf]; omega
      case rel =>
        refine ⟨k + 1, _, by go_num, rfl, by omega, ?_, ?_⟩
        · show _ ∧ _
          rw [IntKind.wrap_u64]
          exact ⟨Int.emod_nonneg _ (by omega), Int.emod_lt_of_pos _ (by omega)⟩
        · show _ ∣ _
          rw [IntKind.wrap_u64, IntKind.wrap_u64, IntKind.wrap_u64]
          exact inv_step hlt hd.out
    · have : k = 5 := by omega
      subst this
      have i1 : ¬ ((5 : Nat) : Int) < 5 := by omega
      go_wp2
      go_ret
      have hz' := hz.out
      refine ⟨⟨(IntKind.u64.wrap (-z)).toNat, ?_, ?_, ?_⟩, rfl⟩
      · refine ret_int ?_
        have : 0 ≤ IntKind.u64.wrap (-z) := by rw [IntKind.wrap_u64]; exact Int.emod_nonneg _ (by omega)
        rw [Int.toNat_of_nonneg this]
      · rw [IntKind.wrap_u64]; unfold BB; omega
      · have hd' : (18446744073709551616 : Int) ∣ (x : Int) * z - 1 := hd.out
        rw [IntKind.wrap_u64]
        have e : (((-z % 18446744073709551616).toNat * x + 1 : Nat) : Int) % 18446744073709551616 = 0 := by
          rw [Int.natCast_add, Int.natCast_mul, Int.toNat_of_nonneg (Int.emod_nonneg _ (by omega))]
          have h1 := Int.emod_add_mul_ediv (-z) 18446744073709551616
          have h2 : (-z % 18446744073709551616) = -z - 18446744073709551616 * (-z / 18446744073709551616) := by omega
          rw [h2, Int.sub_mul, Int.neg_mul]
          obtain ⟨q, hq⟩ := hd'
          rw [Int.mul_comm z, Int.mul_assoc]
          generalize -z / 18446744073709551616 * (x : Int) = r
          generalize (x : Int) * z = s at *
          refine Int.emod_eq_zero_of_dvd ⟨-q - r, ?_⟩
          rw [Int.mul_sub, Int.mul_neg, ← hq]
          omega
        have e' : ((((-z % 18446744073709551616).toNat * x + 1) % BB : Nat) : Int) = 0 := e
        exact Int.ofNat_eq_zero.1 e'

end Go.Proofs.Ytnfjmngchapdnaa
