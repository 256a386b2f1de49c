import Derived.Test.YtnfjmngchapdnaaGreatDoorMRR
/- bigmod: newModulus, resetToBytes, NewModulus. -/
namespace Go.Proofs.YtnfjmngchapdnaaGreatDoor
open Go.RowKit

theorem MHdr.new (w : World) (pn : Nat) : MHdr (w.alloc (.cells #[.pointer (some ⟨pn, 0, none⟩), .bool false, .int .u64 0, .pointer none] 118)) w.heap.size pn false 0 (.pointer none) := by
  unfold MHdr
  show (w.heap.push _)[w.heap.size]? = _
  rw [Array.getElem?_push, if_pos rfl]; rfl
theorem MHdr.free {w : World} {pm pn m0 : Nat} {odd : Bool} {rv : Value} (h : MHdr w pm pn odd m0 rv) (i : Nat) : w.frozen? ⟨pm, i, none⟩ = false := by
  unfold MHdr at h; simp [World.frozen?, h]
theorem MHdr.modify {w : World} {pm : Nat} {C D : Array Value} {t : TypeId} {i : Nat} {v : Value} (h : w.heap[pm]? = some (.cells C t (0, 0))) (hD : C.setIfInBounds i v = D) : (w.setCell ⟨pm, i, none⟩ v).heap[pm]? = some (.cells D t (0, 0)) := by
  have hlt := lt_of_block h
  have h' : w.heap[pm] = .cells C t (0, 0) := by simpa [Array.getElem?_eq_getElem hlt] using h
  show (w.heap.modify pm _)[pm]? = _
  rw [Array.getElem?_eq_getElem (by simpa using hlt), Array.getElem_modify_self, h']
  simp [hD]
theorem MHdr.set1 {w : World} {pm pn m0 : Nat} {odd : Bool} {rv : Value} (h : MHdr w pm pn odd m0 rv) (b : Bool) : MHdr (w.setCell ⟨pm, 1, none⟩ (.bool b)) pm pn b m0 rv := MHdr.modify h rfl
theorem MHdr.set2 {w : World} {pm pn m0 : Nat} {odd : Bool} {rv : Value} (h : MHdr w pm pn odd m0 rv) (k : Nat) : MHdr (w.setCell ⟨pm, 2, none⟩ (.int .u64 (k : Int))) pm pn odd k rv := MHdr.modify h rfl
theorem MHdr.set3 {w : World} {pm pn m0 : Nat} {odd : Bool} {rv : Value} (h : MHdr w pm pn odd m0 rv) (v : Value) : MHdr (w.setCell ⟨pm, 3, none⟩ v) pm pn odd m0 v := MHdr.modify h rfl

/-- A modulus as newModulus makes it. -/
structure ModX (w : World) (pm pn ln pr lr n m : Nat) : Prop where
  n31 : n ≤ 31
  gt : 1 < m
  top : BB ^ (n - 1) ≤ m
  bod : (m % 2 = 1 ∧ ∃ m0 : Nat, ModB w pm pn ln n m true m0 (.pointer (some ⟨pr, 0, none⟩)) ∧ (m0 * m + 1) % BB = 0 ∧ NatV w pr lr n 32 ((BB ^ n * BB ^ n) % m)) ∨
    (m % 2 = 0 ∧ pr = pm ∧ lr = pm ∧ ∃ rv, ModB w pm pn ln n m false 0 rv)
theorem ModX.modB {w : World} {pm pn ln pr lr n m : Nat} (h : ModX w pm pn ln pr lr n m) : ∃ odd m0 rv, ModB w pm pn ln n m odd m0 rv := by
  rcases h.bod with ⟨_, m0, h1, _⟩ | ⟨_, _, _, rv, h1⟩
  · exact ⟨_, _, _, h1⟩
  · exact ⟨_, _, _, h1⟩
theorem ModX.keeps {S : List Nat} {w w' : World} {pm pn ln pr lr n m : Nat} (h : ModX w pm pn ln pr lr n m) (hk : Keeps S w w') (h1 : pm ∉ S) (h2 : pn ∉ S) (h3 : ln ∉ S) (h4 : pr ∉ S) (h5 : lr ∉ S) : ModX w' pm pn ln pr lr n m := by
  refine ⟨h.n31, h.gt, h.top, ?_⟩
  rcases h.bod with ⟨a, m0, b, c, d⟩ | ⟨a, b, c, rv, d⟩
  · exact .inl ⟨a, m0, b.keeps hk h1 h2 h3, c, d.keeps hk h4 h5⟩
  · exact .inr ⟨a, b, c, rv, d.keeps hk h1 h2 h3⟩
theorem ModX.kept {w w' : World} {pm pn ln pr lr n m : Nat} (h : ModX w pm pn ln pr lr n m) (hk : Keeps [] w w') : ModX w' pm pn ln pr lr n m := h.keeps hk (by simp) (by simp) (by simp) (by simp) (by simp)
theorem ModX.old {w : World} {pm pn ln pr lr n m x : Nat} (h : ModX w pm pn ln pr lr n m) (hx : w.heap.size ≤ x) : pm ≠ x ∧ pn ≠ x ∧ ln ≠ x ∧ pr ≠ x ∧ lr ≠ x := by
  rcases h.bod with ⟨a, m0, b, c, d⟩ | ⟨a, rfl, rfl, rv, d⟩
  · have h1 := b.old hx
    have h2 := d.old hx
    exact ⟨h1.1, h1.2.1, h1.2.2, h2.1, h2.2⟩
  · have h1 := d.old hx
    exact ⟨h1.1, h1.2.1, h1.2.2, h1.1, h1.1⟩
theorem ModX.npos {w : World} {pm pn ln pr lr n m : Nat} (h : ModX w pm pn ln pr lr n m) : 0 < n := by
  obtain ⟨_, _, _, hb⟩ := h.modB
  exact hb.npos (by have := h.gt; omega)
theorem ModX.lt {w : World} {pm pn ln pr lr n m : Nat} (h : ModX w pm pn ln pr lr n m) : m < BB ^ n := by
  obtain ⟨_, _, _, hb⟩ := h.modB
  exact hb.nat.lt
theorem even_mod_BB (m : Nat) : m % BB % 2 = m % 2 := by
  rw [BB_eq]; omega
theorem inv_mod {m0 m : Nat} (h : (m0 * (m % BB) + 1) % BB = 0) : (m0 * m + 1) % BB = 0 := by
  rw [← h, Nat.add_mod, Nat.mul_mod, Nat.add_mod (m0 * (m % BB)), Nat.mul_mod m0 (m % BB), Nat.mod_mod]

theorem NatV.alloc {w : World} {p lb n c v : Nat} (h : NatV w p lb n c v) (o : Obj) : NatV (w.alloc o) p lb n c v := h.kept ((Keeps.refl _ _).alloc o)

set_option maxRecDepth 100000 in
set_option maxHeartbeats 1000000 in
theorem newModulus_err (pn ln n m : Nat) (w : World) (hx : NatV w pn ln n 32 m) (hn : n ≤ 31) (hm : m ≤ 1) :
    Calls Tryz.prog 63 #[.pointer (some ⟨pn, 0, none⟩)] w fun e w' =>
      (∃ v, e = .returned (.tuple #[.pointer none, v]) ∧ IsErr v) ∧ Keeps [] w w' := by
  go_enter Tryz.func63, Tryz.ntmps63
  have hx1 := hx.alloc (.cells #[.pointer (some ⟨pn, 0, none⟩), .bool false, .int .u64 0, .pointer none] 118)
  have hh := MHdr.new w pn
  have c0 := hh.c0
  have hk1 : Keeps [] w (w.alloc (.cells #[.pointer (some ⟨pn, 0, none⟩), .bool false, .int .u64 0, .pointer none] 118)) := (Keeps.refl _ _).alloc _
  have HK := Lib.hid hk1; have HH := Lib.hid hh
  clear hh hk1
  go_wp2_with fail
  refine (nat_IsZero pn ln n 32 m _ hx1 (by omega)).mono ?_
  rintro e w1 ⟨r, rfl, hr, rfl⟩
  rcases hr.case with ⟨rfl, hm0⟩ | ⟨rfl, hm0⟩
  · go_wp2_with fail
    refine (nat_IsOne pn ln n 32 m _ hx1 (by omega)).mono ?_
    rintro e w1 ⟨r, rfl, hr, rfl⟩
    have := hr.yes (by omega)
    subst this
    go_wp2_with fail
    refine (errors_New _ _).mono ?_
    rintro e w1 ⟨⟨b, rfl, _, _⟩, hk⟩
    go_wp2
    go_ret2
    exact ⟨⟨_, rfl, _, _, rfl⟩, HK.out.trans1 hk⟩
  · go_wp2_with fail
    refine (errors_New _ _).mono ?_
    rintro e w1 ⟨⟨b, rfl, _, _⟩, hk⟩
    go_wp2
    go_ret2
    exact ⟨⟨_, rfl, _, _, rfl⟩, HK.out.trans1 hk⟩

set_option maxRecDepth 100000 in
set_option maxHeartbeats 1000000 in
theorem newModulus_ok (pn ln n m : Nat) (w : World) (hx : NatV w pn ln n 32 m) (hn : n ≤ 31) (htop : BB ^ (n - 1) ≤ m) (hm : 1 < m) :
    Calls Tryz.prog 63 #[.pointer (some ⟨pn, 0, none⟩)] w fun e w' =>
      ∃ pm pr lr, e = .returned (.tuple #[.pointer (some ⟨pm, 0, none⟩), .nilIface]) ∧ ModX w' pm pn ln pr lr n m ∧ w.heap.size ≤ pm ∧ w.heap.size ≤ pr ∧ w.heap.size ≤ lr ∧ Keeps [] w w' := by
  go_enter Tryz.func63, Tryz.ntmps63
  have hx1 := hx.alloc (.cells #[.pointer (some ⟨pn, 0, none⟩), .bool false, .int .u64 0, .pointer none] 118)
  have hh := MHdr.new w pn
  have c0 := hh.c0
  have hk1 : Keeps [] w (w.alloc (.cells #[.pointer (some ⟨pn, 0, none⟩), .bool false, .int .u64 0, .pointer none] 118)) := (Keeps.refl _ _).alloc _
  have hm0 : 0 < n := by
    rcases Nat.eq_zero_or_pos n with h0 | h0
    · subst h0; have := hx.lt; simp at this; omega
    · exact h0
  have HK := Lib.hid hk1; have HH := Lib.hid hh
  clear hh hk1
  go_wp2_with fail
  refine (nat_IsZero pn ln n 32 m _ hx1 (by omega)).mono ?_
  rintro e wa ⟨r, rfl, hr, hwa⟩
  rw [hwa] at hx1 c0 HH HK
  clear hwa
  have := hr.no (by omega)
  subst this
  clear hr
  go_wp2_with fail
  refine (nat_IsOne pn ln n 32 m _ hx1 (by omega)).mono ?_
  rintro e w1 ⟨r, rfl, hr, rfl⟩
  have := hr.no (by omega)
  subst this
  clear hr
  go_wp2_with fail
  refine (nat_IsOdd pn ln n 32 m _ hx1 (by omega)).mono ?_
  rintro e w1 ⟨r, rfl, hr, rfl⟩
  rcases hr.case with ⟨rfl, hodd⟩ | ⟨rfl, hodd⟩
  · clear hr
    go_wp2
    go_ret2
    refine ⟨_, _, _, rfl, ⟨hn, hm, htop, .inr ⟨by omega, rfl, rfl, _, HH.out, hx1⟩⟩, ?_, ?_, ?_, HK.out⟩ <;> exact Nat.le_refl _
  · clear hr
    have f1 := HH.out.free 1
    have d1 := HH.out.c1
    have hh2 := HH.out.set1 true
    have hk2 := HK.out.setCell (p := ⟨w.heap.size, 1, none⟩) (fun h => absurd h (Nat.lt_irrefl _)) (.bool true)
    have o := hx.old (x := w.heap.size) (Nat.le_refl _)
    have hx2 := hx.kept hk2
    have c0' := hh2.c0
    have ch := hx2.hdr.cell
    obtain ⟨x, cx, hxv⟩ := hx2.cell0 hm0
    have i0 : (0 : Int) < (n : Int) := by omega
    have f2 := hh2.free 2
    have d2 := hh2.c2
    have d2' : (wa.setCell ⟨w.heap.size, 1, none⟩ (.bool true)).cell? ⟨w.heap.size, 2, none⟩ = some (.int .u64 0) := d2
    clear d2
    have HH2 := Lib.hid hh2; have HX := Lib.hid hxv; have HK2 := Lib.hid hk2; have HX2 := Lib.hid hx2
    clear hh2 hxv hk2 hx1
    go_wp2_with fail
    have hxB : x < BB := by rw [HX.out]; exact Nat.mod_lt _ BB_pos
    have hxo : x % 2 = 1 := by rw [HX.out, even_mod_BB]; exact hodd
    refine (minusInverse_any x hxB hxo _).mono ?_
    rintro e w1 ⟨⟨m0, rfl, hm0B, hinv⟩, rfl⟩
    have hh3 := HH2.out.set2 m0
    have hk3 := HK2.out.setCell (p := ⟨w.heap.size, 2, none⟩) (fun h => absurd h (Nat.lt_irrefl _)) (.int .u64 (m0 : Int))
    have hx3 := hx.kept hk3
    rw [HX.out] at hinv
    have hinv' := inv_mod hinv
    have f3 := hh3.free 3
    have HH3 := Lib.hid hh3; have HK3 := Lib.hid hk3; have HX3 := Lib.hid hx3; have HI := Lib.hid hinv'
    clear hinv hinv' hh3 hk3 hx3 ch cx c0'
    go_wp2_with fail
    refine (rr_any w.heap.size pn ln n m m0 true _ _ ⟨HH3.out, HX3.out⟩ HI.out hodd hm htop hn).mono ?_
    rintro e w4 ⟨pr, lr, rfl, hr4, hp4, hl4, hk4⟩
    have hsz : w.heap.size < pr := by have := HH3.out.lt; omega
    have hsz2 : w.heap.size < lr := by have := HH3.out.lt; omega
    have hh4 := HH3.out.keeps hk4 (by simp)
    have hx4 := HX3.out.kept hk4
    have hk4' := HK3.out.trans1 hk4
    have f4 := hh4.free 3
    have d4 := hh4.c3
    have hh5 := hh4.set3 (.pointer (some ⟨pr, 0, none⟩))
    have hs5 : Keeps [w.heap.size] w4 (w4.setCell ⟨w.heap.size, 3, none⟩ (.pointer (some ⟨pr, 0, none⟩))) := (Keeps.refl _ _).setCell (by simp) _
    have hx5 := hx4.keeps hs5 (by simp [o.1]) (by simp [o.2])
    have hr5 := hr4.keeps hs5 (by simp; omega) (by simp; omega)
    have hk5 := hk4'.trans hs5 (by intro x hx hlt; simp at hx; omega)
    have HH5 := Lib.hid hh5; have HX5 := Lib.hid hx5; have HR5 := Lib.hid hr5; have HK5 := Lib.hid hk5
    clear hh4 hx4 hk4' hk4 hh5 hs5 hx5 hr5 hk5 hr4 f3
    go_wp2
    go_ret2
    exact ⟨_, _, _, rfl, ⟨hn, hm, htop, .inl ⟨hodd, m0, ⟨HH5.out, HX5.out⟩, HI.out, HR5.out⟩⟩, Nat.le_refl _, Nat.le_of_lt hsz, Nat.le_of_lt hsz2, HK5.out⟩

/-- A byte slice that holds L. -/
def SlB (w : World) (a : Option Addr) (n c : Nat) (L : List Nat) : Prop :=
  L.length = n ∧ n ≤ c ∧ LtB L ∧ (L ≠ [] → ∃ b o, a = some ⟨b, o, none⟩ ∧ b < w.heap.size ∧ BAt w b o L)
theorem SlB.keeps {S : List Nat} {w w' : World} {a : Option Addr} {n c : Nat} {L : List Nat} (h : SlB w a n c L) (hk : Keeps S w w') (hS : ∀ b, b ∈ S → w.heap.size ≤ b) : SlB w' a n c L := by
  obtain ⟨h1, h2, h3, h4⟩ := h
  refine ⟨h1, h2, h3, fun hne => ?_⟩
  obtain ⟨b, o, e, hb, hB⟩ := h4 hne
  exact ⟨b, o, e, Nat.lt_of_lt_of_le hb hk.size, hB.keeps hb hk (fun hm => by have := hS b hm; omega)⟩
theorem SlB.kept {w w' : World} {a : Option Addr} {n c : Nat} {L : List Nat} (h : SlB w a n c L) (hk : Keeps [] w w') : SlB w' a n c L := h.keeps hk (by simp)

set_option maxRecDepth 100000 in
set_option maxHeartbeats 1000000 in
theorem nat_resetToBytes (p lb n v : Nat) (a : Option Addr) (m cb : Nat) (L : List Nat) (w : World) (hx : NatV w p lb n 32 v) (hs : SlB w a m cb L) (hm : m ≤ 240) :
    Calls Tryz.prog 62 #[.pointer (some ⟨p, 0, none⟩), .slice a m cb] w fun e w' =>
      e = .returned (.pointer (some ⟨p, 0, none⟩)) ∧ ∃ n', n' ≤ (m + 7) / 8 ∧ NatV w' p lb n' 32 (bval L) ∧ (n' = 0 ∨ BB ^ (n' - 1) ≤ bval L) ∧ Keeps [p, lb] w w' := by
  obtain ⟨h1, h2, h3, h4⟩ := hs
  obtain ⟨k, hk⟩ : ∃ k, k = (m + 7) / 8 := ⟨_, rfl⟩
  have ek : ((m : Int) + 8 - 1) / 8 = (k : Int) := by omega
  have EK := Lib.hid ek
  rw [← hk]
  have hk30 : k ≤ 30 := by omega
  have hkm : m ≤ 8 * k := by omega
  have hkm0 : m = 0 → k = 0 := by omega
  clear hk ek
  go_enter Tryz.func62, Tryz.ntmps62
  go_wp2_with fail
  rw [EK.out]
  refine (nat_reset p lb n 32 v k _ hx (by omega) (by omega)).mono ?_
  rintro e w1 ⟨rfl, hx1, hk1⟩
  go_wp2_with fail
  rcases List.eq_nil_or_concat L with hL | hL
  · have hm0 : m = 0 := by rw [← h1, hL]; rfl
    subst hm0
    refine (nat_setBytes_nil p lb _ 32 cb 0 a _ hx1 (by omega)).mono ?_
    rintro e w2 ⟨rfl, rfl⟩
    go_wp2_with fail
    refine (nat_trim p lb _ 32 0 _ hx1 (by omega)).mono ?_
    rintro e w3 ⟨rfl, n', hn', hx3, ht, hk3⟩
    go_wp2
    go_ret
    refine ⟨rfl, n', hn', by rw [hL]; exact hx3, by rw [hL]; exact ht, hk1.trans hk3 (by simp)⟩
  · have hne : L ≠ [] := by obtain ⟨_, _, h⟩ := hL; rw [h]; simp
    obtain ⟨b, o, rfl, hb, hB⟩ := h4 hne
    have hbp : b ≠ p := hB.ne_hdr hne hx.hdr
    have hbl : b ≠ lb := by obtain ⟨M, hM⟩ := hx.row'; exact hB.ne_row hne hM
    have hB1 := hB.keeps hb hk1 (by simp [hbp, hbl])
    have hb1 : b < w1.heap.size := Nat.lt_of_lt_of_le hb hk1.size
    refine (nat_setBytes_ok p lb _ 32 b o m cb L _ hx1 hB1 hb1 h3 h1 h2 (by omega) (by omega) hne).mono ?_
    rintro e w2 ⟨rfl, hx2, hk2⟩
    go_wp2_with fail
    refine (nat_trim p lb _ 32 _ _ hx2 (by omega)).mono ?_
    rintro e w3 ⟨rfl, n', hn', hx3, ht, hk3⟩
    go_wp2
    go_ret
    exact ⟨rfl, n', hn', hx3, ht, (hk1.trans hk2 (by simp)).trans hk3 (by simp)⟩

set_option maxRecDepth 100000 in
set_option maxHeartbeats 1000000 in
theorem newModulus_bytes_ok (a : Option Addr) (m cb : Nat) (L : List Nat) (w : World) (hs : SlB w a m cb L) (hm : m ≤ 240) (h1 : 1 < bval L) :
    Calls Tryz.prog 50 #[.slice a m cb] w fun e w' =>
      ∃ pm pn ln pr lr n, e = .returned (.tuple #[.pointer (some ⟨pm, 0, none⟩), .nilIface]) ∧ ModX w' pm pn ln pr lr n (bval L) ∧ n ≤ 30 ∧ w.heap.size ≤ pm ∧ w.heap.size ≤ pn ∧ w.heap.size ≤ ln ∧ w.heap.size ≤ pr ∧ w.heap.size ≤ lr ∧ Keeps [] w w' := by
  go_enter Tryz.func50, Tryz.ntmps50
  go_wp2_with fail
  refine (newNat_any _).mono ?_
  rintro e w1 ⟨p, lb, rfl, hx, hp, hl, hk1⟩
  go_wp2_with fail
  refine (nat_resetToBytes p lb 0 0 a m cb L _ hx (hs.kept hk1) hm).mono ?_
  rintro e w2 ⟨rfl, n, hn, hx2, htop, hk2⟩
  have htop' : BB ^ (n - 1) ≤ bval L := by
    rcases htop with h | h
    · subst h; have := hx2.lt; simp at this; omega
    · exact h
  have hk2' := hk1.trans hk2 (by intro x hx hlt; simp at hx; omega)
  have hn30 : n ≤ 30 := by omega
  clear hk1 hk2 hn htop hx
  go_wp2_with fail
  refine (newModulus_ok p lb n (bval L) _ hx2 (by omega) htop' h1).mono ?_
  rintro e w3 ⟨pm, pr, lr, rfl, hX, o1, o2, o3, hk3⟩
  have hk3' := hk2'.trans1 hk3
  have := hk2'.size
  go_wp2
  go_ret2
  exact ⟨pm, p, lb, pr, lr, n, rfl, hX, hn30, by omega, hp, hl, by omega, by omega, hk3'⟩

set_option maxRecDepth 100000 in
set_option maxHeartbeats 1000000 in
theorem newModulus_bytes_err (a : Option Addr) (m cb : Nat) (L : List Nat) (w : World) (hs : SlB w a m cb L) (hm : m ≤ 240) (h1 : bval L ≤ 1) :
    Calls Tryz.prog 50 #[.slice a m cb] w fun e w' =>
      (∃ v, e = .returned (.tuple #[.pointer none, v]) ∧ IsErr v) ∧ Keeps [] w w' := by
  go_enter Tryz.func50, Tryz.ntmps50
  go_wp2_with fail
  refine (newNat_any _).mono ?_
  rintro e w1 ⟨p, lb, rfl, hx, hp, hl, hk1⟩
  go_wp2_with fail
  refine (nat_resetToBytes p lb 0 0 a m cb L _ hx (hs.kept hk1) hm).mono ?_
  rintro e w2 ⟨rfl, n, hn, hx2, htop, hk2⟩
  have hk2' := hk1.trans hk2 (by intro x hx hlt; simp at hx; omega)
  have hn30 : n ≤ 30 := by omega
  clear hk1 hk2 hn htop hx
  go_wp2_with fail
  refine (newModulus_err p lb n (bval L) _ hx2 (by omega) h1).mono ?_
  rintro e w3 ⟨⟨v, rfl, hv⟩, hk3⟩
  have hk3' := hk2'.trans1 hk3
  go_wp2
  go_ret2
  exact ⟨⟨v, rfl, hv⟩, hk3'⟩

end Go.Proofs.YtnfjmngchapdnaaGreatDoor
