import Derived.Test.YtnfjmngchapdnaaMRun
/- Rows of bytes, and numbers read out of them. -/
namespace Go.Proofs.Ytnfjmngchapdnaa
open Go.RowKit

def LtB (L : List Nat) : Prop := ∀ x, x ∈ L → x < 256
theorem LtB.get {L : List Nat} (h : LtB L) (i : Nat) (hi : i < L.length) : L[i] < 256 := h _ (List.getElem_mem hi)
/-- The greatest byte first. -/
def bval (L : List Nat) : Nat := L.foldl (fun a x => a * 256 + x) 0
theorem foldl_bval (L : List Nat) : ∀ a, L.foldl (fun a x => a * 256 + x) a = a * 256 ^ L.length + bval L := by
  induction L with
  | nil => intro a; simp [bval]
  | cons x L ih =>
    intro a
    simp only [List.foldl_cons, bval, List.length_cons]
    rw [ih (a * 256 + x), ih (0 * 256 + x)]
    simp only [Nat.add_mul, Nat.pow_succ, Nat.zero_mul, Nat.zero_add]
    rw [Nat.mul_assoc a 256, Nat.mul_comm 256 (256 ^ L.length)]
    omega
theorem bval_append (L M : List Nat) : bval (L ++ M) = bval L * 256 ^ M.length + bval M := by
  unfold bval
  rw [List.foldl_append, foldl_bval]
  rfl
theorem bval_lt {L : List Nat} (h : LtB L) : bval L < 256 ^ L.length := by
  induction L with
  | nil => simp [bval]
  | cons x L ih =>
    have h1 := ih (fun y hy => h y (List.mem_cons_of_mem _ hy))
    have h2 := h x (List.mem_cons_self ..)
    rw [show x :: L = [x] ++ L from rfl, bval_append, List.length_append, Nat.pow_add]
    have h3 : bval [x] = x := by simp [bval]
    have h4 : (x + 1) * 256 ^ L.length ≤ 256 * 256 ^ L.length := Nat.mul_le_mul_right _ h2
    rw [h3]
    simp only [List.length_cons, List.length_nil, Nat.zero_add, Nat.pow_one]
    rw [Nat.add_mul] at h4
    omega

/-- The bytes L stand from o on in block b. -/
def BAt (w : World) (b o : Nat) (L : List Nat) : Prop := ∀ i (h : i < L.length), w.cell? ⟨b, o + i, none⟩ = some (.int .u8 (L[i] : Int))
theorem BAt.keeps {S : List Nat} {w w' : World} {b o : Nat} {L : List Nat} (h : BAt w b o L) (hb : b < w.heap.size) (hk : Keeps S w w') (hS : b ∉ S) : BAt w' b o L := by
  intro i hi
  rw [← h i hi]
  exact World.cell?_of_block (w := w) (hk.block b hb hS)
theorem BAt.drop {w : World} {b o : Nat} {L : List Nat} (h : BAt w b o L) (k : Nat) : BAt w b (o + k) (L.drop k) := by
  intro i hi
  have := h (k + i) (by simp at hi; omega)
  rw [List.getElem_drop, Nat.add_assoc]
  exact this
theorem BAt.take {w : World} {b o : Nat} {L : List Nat} (h : BAt w b o L) (k : Nat) : BAt w b o (L.take k) := by
  intro i hi
  have := h i (by simp at hi; omega)
  rw [List.getElem_take]
  exact this

theorem or_u32 (a b k : Nat) (ha : a < 2 ^ k) (h : 2 ^ k * b + a < 4294967296) : Go.bits .or .u32 (a : Int) ((2 ^ k * b : Nat) : Int) = ((2 ^ k * b + a : Nat) : Int) := by
  have h1 : (BitVec.ofInt 32 (a : Int)).toNat = a := by
    rw [BitVec.ofInt_natCast, BitVec.toNat_ofNat]; exact Nat.mod_eq_of_lt (by omega)
  have h2 : (BitVec.ofInt 32 ((2 ^ k * b : Nat) : Int)).toNat = 2 ^ k * b := by
    rw [BitVec.ofInt_natCast, BitVec.toNat_ofNat]; exact Nat.mod_eq_of_lt (by omega)
  show IntKind.u32.wrap ((BitVec.ofInt 32 (a : Int) ||| BitVec.ofInt 32 ((2 ^ k * b : Nat) : Int)).toNat : Int) = _
  rw [BitVec.toNat_or, h1, h2, Nat.or_comm, ← Nat.two_pow_add_eq_or_of_lt ha, IntKind.wrap_u32]
  omega
theorem be32_eq (x0 x1 x2 x3 : Nat) (b0 : x0 < 256) (b1 : x1 < 256) (b2 : x2 < 256) (b3 : x3 < 256) :
    Go.bits .or .u32 (Go.bits .or .u32 (Go.bits .or .u32 (x3 : Int) ((x2 : Int) * 256)) ((x1 : Int) * 65536)) ((x0 : Int) * 16777216) = ((bval [x0, x1, x2, x3] : Nat) : Int) := by
  have e1 := or_u32 x3 x2 8 (by omega) (by omega)
  have e2 := or_u32 (2 ^ 8 * x2 + x3) x1 16 (by omega) (by omega)
  have e3 := or_u32 (2 ^ 16 * x1 + (2 ^ 8 * x2 + x3)) x0 24 (by omega) (by omega)
  rw [show ((x2 : Int) * 256) = ((2 ^ 8 * x2 : Nat) : Int) by omega, e1, show ((x1 : Int) * 65536) = ((2 ^ 16 * x1 : Nat) : Int) by omega, e2, show ((x0 : Int) * 16777216) = ((2 ^ 24 * x0 : Nat) : Int) by omega, e3]
  simp only [bval, List.foldl_cons, List.foldl_nil]
  omega
theorem or_u64 (a b k : Nat) (ha : a < 2 ^ k) (h : 2 ^ k * b + a < BB) : Go.bits .or .u64 ((2 ^ k * b : Nat) : Int) (a : Int) = ((2 ^ k * b + a : Nat) : Int) := by
  unfold BB at h
  rw [bits_or_u64_nat _ _ (by omega) (by omega), ← Nat.two_pow_add_eq_or_of_lt ha]

set_option maxRecDepth 100000 in
set_option maxHeartbeats 1000000 in
theorem beUint32_any (b o n c x0 x1 x2 x3 : Nat) (L : List Nat) (w : World) (hb : BAt w b o (x0 :: x1 :: x2 :: x3 :: L)) (hl : LtB (x0 :: x1 :: x2 :: x3 :: L)) (hn : 4 ≤ n) (hc : n ≤ 1000000) :
    Calls Try.prog 86 #[.slice (some ⟨b, o, none⟩) n c] w fun e w' =>
      e = .returned (.int .u32 ((bval [x0, x1, x2, x3] : Nat) : Int)) ∧ Keeps [] w w' := by
  have c0 := hb 0 (by simp)
  have c1 := hb 1 (by simp)
  have c2 := hb 2 (by simp)
  have c3 := hb 3 (by simp)
  simp only [List.getElem_cons_zero, List.getElem_cons_succ, Nat.add_zero] at c0 c1 c2 c3
  have b0 := hl x0 (by simp)
  have b1 := hl x1 (by simp)
  have b2 := hl x2 (by simp)
  have b3 := hl x3 (by simp)
  have g0 : 0 < n := by omega
  have g1 : 1 < n := by omega
  have g2 : 2 < n := by omega
  have g3 : 3 < n := by omega
  clear hb hl
  go_enter Try.func86, Try.ntmps86
  go_wp2
  refine wp_region_txt [0,0,1,0,0,0,1,0,0,0,0,0,1,0,0,0,0,0,1,0,0,0,0] (fun _ => True) (by kernel_rfl) (by kernel_rfl) trivial ?_
  simp only [withMarks]
  repeat (first
    | ((with_reducible refine txt_v (v := ?_) ?_ ?_); (any_goals ((with_reducible refine Yl.mk ?_ ?_); rfl; intro w hSw; (go_simp <;> (try go_bits) <;> (repeat (first | rw [if_pos (by omega)] | rw [if_neg (by omega)])) <;> with_reducible rfl))); try simp only [Act.put, List.setIfInBounds_toArray, List.set_cons_zero, List.set_cons_succ])
    | ((with_reducible refine txt_u ?_ ?_); rfl; try simp only [Act.put, List.setIfInBounds_toArray, List.set_cons_zero, List.set_cons_succ])
    | ((with_reducible refine txt_l (v := ?_) ?_ ?_); (any_goals ((with_reducible refine Reads.mk ?_ ?_); rfl; (go_simp <;> (try go_bits) <;> (repeat (first | rw [if_pos (by omega)] | rw [if_neg (by omega)])) <;> with_reducible rfl))); try simp only [Act.put, List.setIfInBounds_toArray, List.set_cons_zero, List.set_cons_succ])
    | ((with_reducible refine txt_e ?_ ?_); rfl; intro K hK; go_simp; (first | (refine hK _ _ trivial ?_) | ((first | fail); dsimp only; refine hK _ _ trivial ?_)); clear hK K; try simp only [Act.put, List.setIfInBounds_toArray, List.set_cons_zero, List.set_cons_succ]))
  refine txt_nil ?_
  go_wp2
  go_ret
  refine ⟨ret_int ?_, (Keeps.refl _ _).drew⟩
  exact be32_eq x0 x1 x2 x3 b0 b1 b2 b3

theorem four_of {L : List Nat} (h : 4 ≤ L.length) : ∃ x0 x1 x2 x3 M, L = x0 :: x1 :: x2 :: x3 :: M := by
  match L, h with
  | x0 :: x1 :: x2 :: x3 :: M, _ => exact ⟨x0, x1, x2, x3, M, rfl⟩

theorem beUint32_L (b o n c : Nat) (L : List Nat) (w : World) (hb : BAt w b o L) (hl : LtB L) (h4 : 4 ≤ L.length) (hn : 4 ≤ n) (hc : n ≤ 1000000) :
    Calls Try.prog 86 #[.slice (some ⟨b, o, none⟩) n c] w fun e w' =>
      e = .returned (.int .u32 ((bval (L.take 4) : Nat) : Int)) ∧ Keeps [] w w' := by
  obtain ⟨x0, x1, x2, x3, M, rfl⟩ := four_of h4
  exact beUint32_any b o n c x0 x1 x2 x3 M w hb hl hn hc

theorem BAt.kept {w w' : World} {b o : Nat} {L : List Nat} (h : BAt w b o L) (hb : b < w.heap.size) (hk : Keeps [] w w') : BAt w' b o L := h.keeps hb hk (by simp)
theorem BAt.drew {w : World} {b o : Nat} {L : List Nat} (h : BAt w b o L) : BAt w.drew b o L := h

set_option maxRecDepth 100000 in
set_option maxHeartbeats 1000000 in
theorem beUint64_any (b o n c : Nat) (L : List Nat) (w : World) (hb : BAt w b o L) (hbl : b < w.heap.size) (hl : LtB L) (h8 : 8 ≤ L.length) (hn : 8 ≤ n) (hnc : n ≤ c) (hc : n ≤ 1000000) :
    Calls Try.prog 85 #[.slice (some ⟨b, o, none⟩) n c] w fun e w' =>
      e = .returned (.int .u64 ((bval (L.take 8) : Nat) : Int)) ∧ Keeps [] w w' := by
  have c7 := hb 7 (by omega)
  have g7 : (7 : Int) < (n : Int) := by omega
  have g4 : (4 : Int) ≤ (n : Int) := by omega
  have e1 : ¬ ((c : Nat) = 4) := by omega
  have e2 : ¬ (4 : Int) = (c : Int) := by omega
  obtain ⟨H, hH⟩ : ∃ H, H = bval (L.take 4) := ⟨_, rfl⟩
  obtain ⟨T, hT⟩ : ∃ T, T = bval ((L.drop 4).take 4) := ⟨_, rfl⟩
  have hHl : H < 4294967296 := by
    have := bval_lt (L := L.take 4) (fun x hx => hl x (List.mem_of_mem_take hx))
    rw [← hH, List.length_take, Nat.min_eq_left (by omega)] at this; exact this
  have hTl : T < 4294967296 := by
    have := bval_lt (L := (L.drop 4).take 4) (fun x hx => hl x (List.mem_of_mem_drop (List.mem_of_mem_take hx)))
    rw [← hT, List.length_take, List.length_drop, Nat.min_eq_left (by omega)] at this; exact this
  have hfin : bval (L.take 8) = 2 ^ 32 * H + T := by
    have e : L.take 8 = L.take 4 ++ (L.drop 4).take 4 := by
      rw [show (8 : Nat) = 4 + 4 from rfl, List.take_add]
    rw [e, bval_append, ← hH, ← hT, List.length_take, List.length_drop, Nat.min_eq_left (by omega)]
    omega
  have hor := or_u64 T H 32 (by omega) (by unfold BB; omega)
  rw [show ((2 ^ 32 * H : Nat) : Int) = (H : Int) * 4294967296 by omega] at hor
  have K1 := fun w' (hk : Keeps [] w w') => beUint32_L b o n c L w' (hb.kept hbl hk) hl (by omega) (by omega) hc
  have K2 := fun w' (hk : Keeps [] w w') => beUint32_L b (o + 4) (n - 4) (c - 4) (L.drop 4) w' ((hb.drop 4).kept hbl hk) (fun x hx => hl x (List.mem_of_mem_drop hx)) (by simp; omega) (by omega) (by omega)
  rw [← hH] at K1
  rw [← hT] at K2
  have HK1 := Lib.hid K1; have HK2 := Lib.hid K2; have Hfin := Lib.hid hfin; have Hor := Lib.hid hor
  have hkw : Keeps [] w w.drew := (Keeps.refl _ _).drew
  clear hb hl hH hT K1 K2 hfin hor
  go_enter Try.func85, Try.ntmps85
  go_wp2
  refine wp_region_txt [0,2,0,0,0,0,2,0,0,0] (fun _ => True) (by kernel_rfl) (by kernel_rfl) trivial ?_
  simp only [withMarks]
  repeat (first
    | ((with_reducible refine txt_v (v := ?_) ?_ ?_); (any_goals ((with_reducible refine Yl.mk ?_ ?_); rfl; intro w hSw; (go_simp <;> (try go_bits) <;> (repeat (first | rw [if_pos (by omega)] | rw [if_neg (by omega)])) <;> with_reducible rfl))); try simp only [Act.put, List.setIfInBounds_toArray, List.set_cons_zero, List.set_cons_succ])
    | ((with_reducible refine txt_u ?_ ?_); rfl; try simp only [Act.put, List.setIfInBounds_toArray, List.set_cons_zero, List.set_cons_succ])
    | ((with_reducible refine txt_l (v := ?_) ?_ ?_); (any_goals ((with_reducible refine Reads.mk ?_ ?_); rfl; (go_simp <;> (try go_bits) <;> (repeat (first | rw [if_pos (by omega)] | rw [if_neg (by omega)])) <;> with_reducible rfl))); try simp only [Act.put, List.setIfInBounds_toArray, List.set_cons_zero, List.set_cons_succ])
    | ((with_reducible refine txt_e ?_ ?_); rfl; intro K hK; go_simp; (first | (refine hK _ _ trivial ?_) | ((first | (go_at_call 86; refine (HK2.out _ (hkw.trans1 hk1)).mono ?_; rintro e w2 ⟨rfl, hk2⟩) | (go_at_call 86; refine (HK1.out _ hkw).mono ?_; rintro e w1 ⟨rfl, hk1⟩)); dsimp only; refine hK _ _ trivial ?_)); clear hK K; try simp only [Act.put, List.setIfInBounds_toArray, List.set_cons_zero, List.set_cons_succ]))
  refine txt_nil ?_
  go_wp2
  go_ret
  exact ⟨ret_int (by rw [Hfin.out, ← Hor.out]), (hkw.trans1 hk1).trans1 hk2⟩

end Go.Proofs.Ytnfjmngchapdnaa

/- bigmod: setBytes. -/
namespace Go.Proofs.Ytnfjmngchapdnaa
open Go.RowKit

theorem bigEndianUint_any (b o n c : Nat) (L : List Nat) (w : World) (hb : BAt w b o L) (hbl : b < w.heap.size) (hl : LtB L) (h8 : 8 ≤ L.length) (hn : 8 ≤ n) (hnc : n ≤ c) (hc : n ≤ 1000000) :
    Calls Try.prog 69 #[.slice (some ⟨b, o, none⟩) n c] w fun e w' =>
      e = .returned (.int .u64 ((bval (L.take 8) : Nat) : Int)) ∧ Keeps [] w w' := by
  have H := Lib.hid (beUint64_any b o n c L w hb hbl hl h8 hn hnc hc)
  clear hb hl h8
  generalize bval (L.take 8) = v at *
  go_enter Try.func69, Try.ntmps69
  go_wp2_with fail
  refine H.out.mono ?_
  rintro e w' ⟨rfl, hk⟩
  go_wp2
  go_ret
  exact ⟨rfl, hk⟩

theorem BAt.ne_row {w : World} {b o lb : Nat} {L M : List Nat} (h : BAt w b o L) (hL : L ≠ []) (hr : Row w lb M) : b ≠ lb := by
  rintro rfl
  have h0 := h 0 (List.length_pos_iff.2 hL)
  unfold Row at hr
  simp only [World.cell?, hr, Nat.add_zero] at h0
  simp only [u64s, Option.isSome_none, Bool.false_eq_true, if_false, List.getElem?_toArray, List.getElem?_map] at h0
  cases hM : M[o]? with
  | none => simp [hM] at h0
  | some y => simp [hM] at h0
theorem BAt.ne_hdr {w : World} {b o p lb n c : Nat} {L : List Nat} (h : BAt w b o L) (hL : L ≠ []) (hr : Hdr w p lb n c) : b ≠ p := by
  rintro rfl
  have h0 := h 0 (List.length_pos_iff.2 hL)
  unfold Hdr at hr
  simp only [World.cell?, hr, Nat.add_zero] at h0
  cases o with
  | zero => simp at h0
  | succ o => simp at h0

theorem bval_chunk (L : List Nat) (i k : Nat) (hi : 8 ≤ i) (him : i + 8 * k = L.length) : bval (L.drop (i - 8)) = bval (L.drop i) + BB ^ k * bval ((L.drop (i - 8)).take 8) := by
  have e : L.drop (i - 8) = (L.drop (i - 8)).take 8 ++ L.drop i := by
    conv => lhs; rw [← List.take_append_drop 8 (L.drop (i - 8))]
    rw [List.drop_drop, show i - 8 + 8 = i by omega]
  conv => lhs; rw [e]
  rw [bval_append, List.length_drop, show L.length - i = 8 * k by omega, Nat.pow_mul, show (256 : Nat) ^ 8 = BB from rfl, Nat.mul_comm, Nat.add_comm]
theorem bval_byte (L : List Nat) (i j : Nat) (hi : 0 < i) (hij : i + j = L.length) : bval (L.drop (i - 1)) = bval (L.drop i) + 256 ^ j * L[i - 1]'(by omega) := by
  have e : L.drop (i - 1) = [L[i - 1]'(by omega)] ++ L.drop i := by
    rw [List.drop_eq_getElem_cons (by omega), show i - 1 + 1 = i by omega]; rfl
  conv => lhs; rw [e]
  rw [bval_append, List.length_drop, show L.length - i = j by omega, Nat.mul_comm, Nat.add_comm]
  simp [bval]

theorem Row.kept' {w w' : World} {b : Nat} {L : List Nat} (h : Row w b L) (hk : Keeps [] w w') : Row w' b L := h.keeps hk (by simp)

theorem or_shift (x y t : Nat) (hx : x < 2 ^ (8 * t)) (hy : y < 256) (ht : t < 8) :
    ∃ z : Nat, Go.bits .or .u64 (x : Int) (IntKind.u64.wrap ((y : Int) * 2 ^ (8 * t))) = (z : Int) ∧ z = x + 256 ^ t * y ∧ z < 2 ^ (8 * (t + 1)) ∧ z < BB := by
  have e : (256 : Nat) ^ t = 2 ^ (8 * t) := by rw [Nat.pow_mul]
  have h1 : 2 ^ (8 * t) * (y + 1) ≤ 2 ^ (8 * t) * 256 := Nat.mul_le_mul_left _ hy
  have h2 : 2 ^ (8 * (t + 1)) = 2 ^ (8 * t) * 256 := by rw [show 8 * (t + 1) = 8 * t + 8 by omega, Nat.pow_add]
  have h3 : 2 ^ (8 * (t + 1)) ≤ BB := by rw [BB_eq]; exact Nat.pow_le_pow_right (by omega) (by omega)
  have hz : 2 ^ (8 * t) * y + x < 2 ^ (8 * (t + 1)) := by rw [h2]; rw [Nat.mul_add] at h1; omega
  have hlt : 2 ^ (8 * t) * y + x < BB := by omega
  have hb := bits_or_u64_nat x (2 ^ (8 * t) * y) (by unfold BB at hlt; omega) (by unfold BB at hlt; omega)
  rw [Nat.or_comm, ← Nat.two_pow_add_eq_or_of_lt hx] at hb
  have hw : IntKind.u64.wrap ((y : Int) * 2 ^ (8 * t)) = ((2 ^ (8 * t) * y : Nat) : Int) := by
    have e2 : ((y : Int) * 2 ^ (8 * t)) = ((2 ^ (8 * t) * y : Nat) : Int) := by rw [Int.natCast_mul, Int.natCast_pow]; exact Int.mul_comm _ _
    rw [e2, IntKind.wrap_u64]
    unfold BB at hlt
    omega
  rw [hw]
  exact ⟨2 ^ (8 * t) * y + x, hb, by rw [e]; omega, hz, hlt⟩

/-- An error. -/
def IsErr (v : Value) : Prop := ∃ t x, v = .iface t x

set_option maxHeartbeats 1000000 in
theorem errors_New (s : ByteArray) (w : World) : Calls Try.prog 47 #[.string s] w fun e w' => (∃ b : Nat, e = .returned (.iface 105 (.pointer (some ⟨b, 0, none⟩))) ∧ w'.heap[b]? = some (.cells #[.string s] 107 (0, 0)) ∧ w.heap.size ≤ b) ∧ Keeps [] w w' := by
  go_enter Try.func47, Try.ntmps47
  go_wp2
  go_ret
  refine ⟨⟨w.heap.size, rfl, ?_, Nat.le_refl _⟩, (Keeps.refl _ _).alloc _⟩
  show (w.heap.push _)[w.heap.size]? = _
  rw [Array.getElem?_push, if_pos rfl]

set_option maxRecDepth 100000 in
set_option maxHeartbeats 2000000 in
theorem nat_setBytes_ok (p lb n c b o m cb : Nat) (L : List Nat) (w : World) (hx : NatV w p lb n c 0) (hb : BAt w b o L) (hbl : b < w.heap.size) (hl : LtB L) (hm : L.length = m) (hmc : m ≤ cb) (hn : n ≤ 1000) (hfit : m ≤ 8 * n) (hne : L ≠ []) :
    Calls Try.prog 51 #[.pointer (some ⟨p, 0, none⟩), .slice (some ⟨b, o, none⟩) m cb] w fun e w' =>
      e = .returned .nilIface ∧ NatV w' p lb n c (bval L) ∧ Keeps [lb] w w' := by
  have g1 := hx.le
  have hne' := hx.ne
  obtain ⟨hh, L0, J, hL1, hL2, hL3, hL4, hL5⟩ := hx
  have hbr := hb.ne_row hne hL1
  have KL2 := Lib.hid hL2; have KL3 := Lib.hid hL3; have KL5 := Lib.hid hL5; have Km := Lib.hid hm; have Hb := Lib.hid hb; have Hl := Lib.hid hl
  have HZ : Hid (L0 = List.replicate n 0) := val_inj hL4 (Lt.replicate n) (by simpa using hL2) (by rw [hL5, val_replicate])
  clear hL2 hL3 hL5 hm hb hl
  have hmb : m ≤ 8000 := by omega
  go_enter Try.func51, Try.ntmps51
  go_wp2
  go_loopw [5, 6] (fun i kk wr => ∃ (j k : Nat) (X : List Nat), i = .int .i64 j ∧ kk = .int .i64 k ∧ j + 8 * k = m ∧ k ≤ n ∧ Hid (X.length = n) ∧ Lt X ∧ Row wr lb (X ++ J) ∧ Hdr wr p lb n c ∧ Hid (val X = bval (L.drop j)) ∧ Hid (X.drop k = List.replicate (n - k) 0) ∧ Keeps [lb] w wr) (fun i _ _ => (intOf i).toNat)
  case atStart => exact ⟨m, 0, L0, rfl, rfl, by omega, by omega, KL2, hL4, hL1, hh, by show _ = _; rw [KL5.out, List.drop_of_length_le (by rw [Km.out]; omega)]; rfl, by show _ = _; rw [HZ.out]; simp, Keeps.refl _ _⟩
  case round =>
    obtain ⟨j, k, X, rfl, rfl, hjk, hk, hXn, hXl, hX, hd, hv, hz, hkp⟩ := hrel
    have c1 := hd.cell
    by_cases hA : k < n ∧ 8 ≤ j
    · obtain ⟨hkn, hj8⟩ := hA
      have hXn' := hXn.out
      have f1 := hX.free k
      have cc := hX.cell k (by simp; omega)
      have hb' := (Hb.out.keeps hbl hkp (by simpa using hbr))
      have HB := Lib.hid (fun w' (hk' : Keeps [] wr w') => bigEndianUint_any b (o + (j - 8)) 8 (cb - (j - 8)) (L.drop (j - 8)) w' ((hb'.drop (j - 8)).keeps (Nat.lt_of_lt_of_le hbl hkp.size) hk' (by simp)) (Nat.lt_of_lt_of_le hbl (Nat.le_trans hkp.size hk'.size)) (fun x hx => Hl.out x (List.mem_of_mem_drop hx)) (by have := Km.out; simp; omega) (by omega) (by omega) (by omega))
      have hlt : bval ((L.drop (j - 8)).take 8) < BB := by
        have h2 := bval_lt (L := (L.drop (j - 8)).take 8) (fun x hx => Hl.out x (List.mem_of_mem_drop (List.mem_of_mem_take hx)))
        have h3 : ((L.drop (j - 8)).take 8).length = 8 := by have := Km.out; simp; omega
        rw [h3] at h2; exact h2
      have hch := bval_chunk L j k hj8 (by rw [Km.out]; exact hjk)
      obtain ⟨y, hy⟩ : ∃ y, y = bval ((L.drop (j - 8)).take 8) := ⟨_, rfl⟩
      rw [← hy] at HB hlt hch
      have Hch := Lib.hid hch; have Hlt := Lib.hid hlt
      have hXcl := hXn'
      clear hy hch hlt hb' hXn' hXcl cc
      have i1 : (k : Int) < (n : Int) := by omega
      have i2 : (8 : Int) ≤ (j : Int) := by omega
      have i3 : ¬ (cb = j - 8) := by omega
      have i7 : j - (j - 8) = 8 := by omega
      go_wp2_with fail
      refine wp_region_txt [0,0,0,0,0,0,0,0,0,0,2,0,2] (fun w' => w'.cell? ⟨p, 0, none⟩ = some (.slice (some ⟨lb, 0, none⟩) n c)) (by kernel_rfl) (by kernel_rfl) c1 ?_
      simp only [withMarks]
      repeat (first
        | ((with_reducible refine txt_v (v := ?_) ?_ ?_); (any_goals ((with_reducible refine Yl.mk ?_ ?_); rfl; intro w hSw; (go_simp <;> (try go_bits) <;> (repeat (first | rw [if_pos (by omega)] | rw [if_neg (by omega)])) <;> with_reducible rfl))); try simp only [Act.put, List.setIfInBounds_toArray, List.set_cons_zero, List.set_cons_succ])
        | ((with_reducible refine txt_u ?_ ?_); rfl; try simp only [Act.put, List.setIfInBounds_toArray, List.set_cons_zero, List.set_cons_succ])
        | ((with_reducible refine txt_l (v := ?_) ?_ ?_); (any_goals ((with_reducible refine Reads.mk ?_ ?_); rfl; (go_simp <;> (try go_bits) <;> (repeat (first | rw [if_pos (by omega)] | rw [if_neg (by omega)])) <;> with_reducible rfl))); try simp only [Act.put, List.setIfInBounds_toArray, List.set_cons_zero, List.set_cons_succ])
        | ((with_reducible refine txt_e ?_ ?_); rfl; intro K hK; go_simp; (first | (refine hK _ _ (by first | exact (hd.drew.keeps hk1 (by simp)).cell | exact ((hd.drew.keeps hk1 (by simp)).other (a := ⟨lb, k, none⟩) hne' _).cell) ?_) | ((first | (go_at_call 69; refine (HB.out _ ((Keeps.refl _ _).drew)).mono ?_; rintro e w1 ⟨rfl, hk1⟩; have f2 := (hX.drew.kept' hk1).free k; have cc := (hX.drew.kept' hk1).cell k (by have := hXn.out; simp; omega))); dsimp only; refine hK _ _ (by first | exact (hd.drew.keeps hk1 (by simp)).cell | exact ((hd.drew.keeps hk1 (by simp)).other (a := ⟨lb, k, none⟩) hne' _).cell) ?_)); clear hK K; try simp only [Act.put, List.setIfInBounds_toArray, List.set_cons_zero, List.set_cons_succ]))
      refine txt_nil ?_
      go_wp2
      have hXn' := hXn.out
      refine ⟨⟨j - 8, k + 1, X.set k y, by go_num, by go_num, by omega, by omega, by show _ = _; simp [hXn'], hXl.set _ _ Hlt.out, ?_, (hd.drew.keeps hk1 (by simp)).other (a := ⟨lb, k, none⟩) hne' _, ?_, ?_, ((hkp.drew.trans1 (hk1.mono (by simp))).setCell (by simp) _)⟩, by simp [intOf]; omega⟩
      · have := (hX.drew.kept' hk1).set k y
        rw [List.set_append_left _ _ (by omega)] at this; exact this
      · show _ = _
        rw [Hch.out]
        have h1 := val_set X k y (by omega)
        have h2 : X[k]'(by omega) = 0 := by
          have h3 := congrArg (fun l => l[0]?) hz.out
          simp only [List.getElem?_drop, Nat.add_zero, List.getElem?_replicate] at h3
          rw [if_pos (by omega), List.getElem?_eq_getElem (by omega)] at h3
          simpa using h3
        rw [h2, hv.out] at h1
        simpa using h1
      · show _ = _
        have h3 := congrArg (List.drop 1) hz.out
        rw [List.drop_drop, List.drop_replicate] at h3
        rw [List.drop_set_of_lt (by omega), h3, show n - k - 1 = n - (k + 1) by omega]
    · have hB : n ≤ k ∨ j < 8 := by omega
      have hXk : Hid (∀ h : k < X.length, X[k] = 0) := by
        intro h
        have h3 := congrArg (fun l => l[0]?) hz.out
        simp only [List.getElem?_drop, Nat.add_zero, List.getElem?_replicate] at h3
        rw [if_pos (by have := hXn.out; omega), List.getElem?_eq_getElem (by omega)] at h3
        simpa using h3
      clear hA hz
      by_cases hkn : k < n
      · have hj8 : j < 8 := by omega
        have i1 : (k : Int) < (n : Int) := by omega
        have i2 : ¬ (8 : Int) ≤ (j : Int) := by omega
        go_wp2
        go_loopw [5, 7] (fun i ss wq => ∃ (j2 t : Nat) (Y : List Nat), i = .int .i64 j2 ∧ ss = .int .i64 ((8 * t : Nat) : Int) ∧ j2 + t = j ∧ Hid (Y.length = n) ∧ Lt Y ∧ Row wq lb (Y ++ J) ∧ Hdr wq p lb n c ∧ Hid (val Y = bval (L.drop j2)) ∧ Hid (∀ h : k < Y.length, Y[k] < 2 ^ (8 * t)) ∧ Keeps [lb] w wq) (fun i _ _ => (intOf i).toNat)
        case atStart => exact ⟨j, 0, X, rfl, rfl, by omega, hXn, hXl, hX, hd, hv, by intro h; rw [hXk.out h]; simp, hkp⟩
        case round =>
          obtain ⟨j2, t, Y, rfl, rfl, hjt, hYn, hYl, hY, hd2, hv2, hlt2, hkp2⟩ := hrel
          have c2 := hd2.cell
          have k1 : ((8 * t : Nat) : Int) < 64 := by omega
          by_cases hj0 : 0 < j2
          · have i3 : (0 : Int) < (j2 : Int) := by omega
            have i4 : j2 - 1 < m := by omega
            have i5 : (j2 : Int) - 1 < (m : Int) := by omega
            have hYn' := hYn.out
            have f1 := hY.free k
            have cc := hY.cell k (by simp; omega)
            rw [List.getElem_append_left (by omega)] at cc
            have hYk := hlt2.out (by omega)
            have cb2 := (Hb.out.keeps hbl hkp2 (by simpa using hbr)) (j2 - 1) (by have := Km.out; omega)
            have hby := Hl.out.get (j2 - 1) (by have := Km.out; omega)
            have hbyte := bval_byte L j2 (8 * k + t) hj0 (by have := Km.out; omega)
            obtain ⟨y, hy⟩ : ∃ y, L[j2 - 1]'(by have := Km.out; omega) = y := ⟨_, rfl⟩
            obtain ⟨x, hx⟩ : ∃ x, Y[k]'(by have := hYn.out; omega) = x := ⟨_, rfl⟩
            rw [hy] at cb2 hby hbyte
            rw [hx] at cc hYk
            obtain ⟨z, hor, hz1, hz2, hz3⟩ := or_shift x y t hYk hby (by omega)
            have Hx := Lib.hid hx; have Hbyte := Lib.hid hbyte; have Hz1 := Lib.hid hz1; have Hz2 := Lib.hid hz2; have Hz3 := Lib.hid hz3
            clear hx hy hbyte hz1 hz2 hz3 hYk
            go_wp2_with fail
            refine wp_region_txt [0,0,0,1,0,0,1,0,0,0,0,1,0,0,0,0,0,2] (fun _ => True) (by kernel_rfl) (by kernel_rfl) trivial ?_
            simp only [withMarks]
            repeat (first
              | ((with_reducible refine txt_v (v := ?_) ?_ ?_); (any_goals ((with_reducible refine Yl.mk ?_ ?_); rfl; intro w hSw; (go_simp <;> (try go_bits) <;> (repeat (first | rw [if_pos (by omega)] | rw [if_neg (by omega)])) <;> with_reducible rfl))); try simp only [Act.put, List.setIfInBounds_toArray, List.set_cons_zero, List.set_cons_succ])
              | ((with_reducible refine txt_u ?_ ?_); rfl; try simp only [Act.put, List.setIfInBounds_toArray, List.set_cons_zero, List.set_cons_succ])
              | ((with_reducible refine txt_l (v := ?_) ?_ ?_); (any_goals ((with_reducible refine Reads.mk ?_ ?_); rfl; (go_simp <;> (try go_bits) <;> (repeat (first | rw [if_pos (by omega)] | rw [if_neg (by omega)])) <;> with_reducible rfl))); try simp only [Act.put, List.setIfInBounds_toArray, List.set_cons_zero, List.set_cons_succ])
              | ((with_reducible refine txt_e ?_ ?_); rfl; intro K hK; go_simp; (first | (refine hK _ _ trivial ?_) | ((first | fail); dsimp only; refine hK _ _ trivial ?_)); clear hK K; try simp only [Act.put, List.setIfInBounds_toArray, List.set_cons_zero, List.set_cons_succ]))
            refine txt_nil ?_
            go_wp2
            refine ⟨⟨j2 - 1, t + 1, Y.set k z, by go_num, by go_num, by omega, by show _ = _; simp [hYn'], hYl.set _ _ Hz3.out, ?_, (hd2.other (a := ⟨lb, k, none⟩) hne' _).drew, ?_, ?_, (hkp2.setCell (by simp) _).drew⟩, by simp [intOf]; omega⟩
            · have := (hY.set k z).drew
              rw [List.set_append_left _ _ (by omega)] at this; exact this
            · show _ = _
              rw [Hbyte.out]
              have h1 := val_set Y k z (by omega)
              rw [Hx.out, hv2.out, Hz1.out, Nat.mul_add] at h1
              have e3 : 256 ^ (8 * k + t) = BB ^ k * 256 ^ t := by rw [Nat.pow_add, Nat.pow_mul]; rfl
              rw [e3, Nat.mul_assoc]
              rw [Hz1.out]
              omega
            · intro h
              rw [List.getElem_set_self]
              exact Hz2.out
          · have hj00 : j2 = 0 := by omega
            subst hj00
            have i3 : ¬ (0 : Int) < ((0 : Nat) : Int) := by omega
            have hfin : NatV wr p lb n c (bval L) := ⟨hd2, Y, J, hY, hYn.out, by have := hYn.out; have := KL2.out; have := KL3.out; omega, hYl, by have := hv2.out; simpa using this⟩
            have Hfin := Lib.hid hfin
            clear hfin
            go_wp2
            go_ret
            exact ⟨rfl, Hfin.out, hkp2⟩
      · have hkn' : k = n := by omega
        have hj0 : j = 0 := by omega
        subst hkn' hj0
        have i1 : ¬ (k : Int) < (k : Int) := by omega
        have hfin : NatV wr p lb k c (bval L) := ⟨hd, X, J, hX, hXn.out, by have := hXn.out; have := KL2.out; have := KL3.out; omega, hXl, by have := hv.out; simpa using this⟩
        have Hfin := Lib.hid hfin
        clear hfin
        go_wp2
        refine wp_loop_once ?_
        go_wp2
        go_ret
        exact ⟨rfl, Hfin.out, hkp⟩

set_option maxRecDepth 100000 in
set_option maxHeartbeats 2000000 in
theorem nat_setBytes_err (p lb n c b o m cb : Nat) (L : List Nat) (w : World) (hx : NatV w p lb n c 0) (hb : BAt w b o L) (hbl : b < w.heap.size) (hl : LtB L) (hm : L.length = m) (hmc : m ≤ cb) (hn : n ≤ 1000) (hfit : 8 * n < m) (hm1 : m ≤ 8000) (hne : L ≠ []) :
    Calls Try.prog 51 #[.pointer (some ⟨p, 0, none⟩), .slice (some ⟨b, o, none⟩) m cb] w fun e w' =>
      (∃ v, e = .returned v ∧ IsErr v) ∧ Keeps [lb] w w' := by
  have g1 := hx.le
  have hne' := hx.ne
  obtain ⟨hh, L0, J, hL1, hL2, hL3, hL4, hL5⟩ := hx
  have hbr := hb.ne_row hne hL1
  have KL2 := Lib.hid hL2; have KL3 := Lib.hid hL3; have KL5 := Lib.hid hL5; have Km := Lib.hid hm; have Hb := Lib.hid hb; have Hl := Lib.hid hl
  have HZ : Hid (L0 = List.replicate n 0) := val_inj hL4 (Lt.replicate n) (by simpa using hL2) (by rw [hL5, val_replicate])
  clear hL2 hL3 hL5 hm hb hl
  go_enter Try.func51, Try.ntmps51
  go_wp2
  go_loopw [5, 6] (fun i kk wr => ∃ (j k : Nat) (X : List Nat), i = .int .i64 j ∧ kk = .int .i64 k ∧ j + 8 * k = m ∧ k ≤ n ∧ Hid (X.length = n) ∧ Lt X ∧ Row wr lb (X ++ J) ∧ Hdr wr p lb n c ∧ Keeps [lb] w wr) (fun i _ _ => (intOf i).toNat)
  case atStart => exact ⟨m, 0, L0, rfl, rfl, by omega, by omega, KL2, hL4, hL1, hh, Keeps.refl _ _⟩
  case round =>
    obtain ⟨j, k, X, rfl, rfl, hjk, hk, hXn, hXl, hX, hd, hkp⟩ := hrel
    have c1 := hd.cell
    by_cases hA : k < n ∧ 8 ≤ j
    · obtain ⟨hkn, hj8⟩ := hA
      have hXn' := hXn.out
      have f1 := hX.free k
      have cc := hX.cell k (by simp; omega)
      have hb' := (Hb.out.keeps hbl hkp (by simpa using hbr))
      have HB := Lib.hid (fun w' (hk' : Keeps [] wr w') => bigEndianUint_any b (o + (j - 8)) 8 (cb - (j - 8)) (L.drop (j - 8)) w' ((hb'.drop (j - 8)).keeps (Nat.lt_of_lt_of_le hbl hkp.size) hk' (by simp)) (Nat.lt_of_lt_of_le hbl (Nat.le_trans hkp.size hk'.size)) (fun x hx => Hl.out x (List.mem_of_mem_drop hx)) (by have := Km.out; simp; omega) (by omega) (by omega) (by omega))
      have hlt : bval ((L.drop (j - 8)).take 8) < BB := by
        have h2 := bval_lt (L := (L.drop (j - 8)).take 8) (fun x hx => Hl.out x (List.mem_of_mem_drop (List.mem_of_mem_take hx)))
        have h3 : ((L.drop (j - 8)).take 8).length = 8 := by have := Km.out; simp; omega
        rw [h3] at h2; exact h2
      have hch := bval_chunk L j k hj8 (by rw [Km.out]; exact hjk)
      obtain ⟨y, hy⟩ : ∃ y, y = bval ((L.drop (j - 8)).take 8) := ⟨_, rfl⟩
      rw [← hy] at HB hlt hch
      have Hch := Lib.hid hch; have Hlt := Lib.hid hlt
      have hXcl := hXn'
      clear hy hch hlt hb' hXn' hXcl cc
      have i1 : (k : Int) < (n : Int) := by omega
      have i2 : (8 : Int) ≤ (j : Int) := by omega
      have i3 : ¬ (cb = j - 8) := by omega
      have i7 : j - (j - 8) = 8 := by omega
      go_wp2_with fail
      refine wp_region_txt [0,0,0,0,0,0,0,0,0,0,2,0,2] (fun w' => w'.cell? ⟨p, 0, none⟩ = some (.slice (some ⟨lb, 0, none⟩) n c)) (by kernel_rfl) (by kernel_rfl) c1 ?_
      simp only [withMarks]
      repeat (first
        | ((with_reducible refine txt_v (v := ?_) ?_ ?_); (any_goals ((with_reducible refine Yl.mk ?_ ?_); rfl; intro w hSw; (go_simp <;> (try go_bits) <;> (repeat (first | rw [if_pos (by omega)] | rw [if_neg (by omega)])) <;> with_reducible rfl))); try simp only [Act.put, List.setIfInBounds_toArray, List.set_cons_zero, List.set_cons_succ])
        | ((with_reducible refine txt_u ?_ ?_); rfl; try simp only [Act.put, List.setIfInBounds_toArray, List.set_cons_zero, List.set_cons_succ])
        | ((with_reducible refine txt_l (v := ?_) ?_ ?_); (any_goals ((with_reducible refine Reads.mk ?_ ?_); rfl; (go_simp <;> (try go_bits) <;> (repeat (first | rw [if_pos (by omega)] | rw [if_neg (by omega)])) <;> with_reducible rfl))); try simp only [Act.put, List.setIfInBounds_toArray, List.set_cons_zero, List.set_cons_succ])
        | ((with_reducible refine txt_e ?_ ?_); rfl; intro K hK; go_simp; (first | (refine hK _ _ (by first | exact (hd.drew.keeps hk1 (by simp)).cell | exact ((hd.drew.keeps hk1 (by simp)).other (a := ⟨lb, k, none⟩) hne' _).cell) ?_) | ((first | (go_at_call 69; refine (HB.out _ ((Keeps.refl _ _).drew)).mono ?_; rintro e w1 ⟨rfl, hk1⟩; have f2 := (hX.drew.kept' hk1).free k; have cc := (hX.drew.kept' hk1).cell k (by have := hXn.out; simp; omega))); dsimp only; refine hK _ _ (by first | exact (hd.drew.keeps hk1 (by simp)).cell | exact ((hd.drew.keeps hk1 (by simp)).other (a := ⟨lb, k, none⟩) hne' _).cell) ?_)); clear hK K; try simp only [Act.put, List.setIfInBounds_toArray, List.set_cons_zero, List.set_cons_succ]))
      refine txt_nil ?_
      go_wp2
      have hXn' := hXn.out
      refine ⟨⟨j - 8, k + 1, X.set k y, by go_num, by go_num, by omega, by omega, by show _ = _; simp [hXn'], hXl.set _ _ Hlt.out, ?_, (hd.drew.keeps hk1 (by simp)).other (a := ⟨lb, k, none⟩) hne' _, ((hkp.drew.trans1 (hk1.mono (by simp))).setCell (by simp) _)⟩, by simp [intOf]; omega⟩
      · have := (hX.drew.kept' hk1).set k y
        rw [List.set_append_left _ _ (by omega)] at this; exact this
    · have hkn' : k = n := by omega
      subst hkn'
      have hj0 : 0 < j := by omega
      have i1 : ¬ (k : Int) < (k : Int) := by omega
      have i3 : (0 : Int) < (j : Int) := by omega
      clear hA
      go_wp2
      refine wp_loop_once ?_
      go_wp2_with fail
      refine (errors_New _ _).mono ?_
      rintro e w1 ⟨⟨eb, rfl, he1, he2⟩, hk1⟩
      have hkk := hkp.trans1 (hk1.mono (by simp))
      clear he1
      go_wp2
      go_ret
      exact ⟨⟨_, rfl, _, _, rfl⟩, hkk⟩

set_option maxRecDepth 100000 in
set_option maxHeartbeats 1000000 in
theorem nat_setBytes_nil (p lb n c cb v : Nat) (a : Option Addr) (w : World) (hx : NatV w p lb n c v) (hn : n ≤ 1000) :
    Calls Try.prog 51 #[.pointer (some ⟨p, 0, none⟩), .slice a 0 cb] w fun e w' =>
      e = .returned .nilIface ∧ w = w' := by
  have c1 := hx.hdr.cell
  have i1 : ¬ (8 : Int) ≤ 0 := by omega
  go_enter Try.func51, Try.ntmps51
  by_cases h0 : 0 < n
  · have i2 : (0 : Int) < (n : Int) := by omega
    go_wp2
    refine wp_loop_once ?_
    go_wp2
    refine wp_loop_once ?_
    go_wp2
    go_ret
    exact ⟨rfl, rfl⟩
  · have i2 : ¬ (0 : Int) < (n : Int) := by omega
    go_wp2
    refine wp_loop_once ?_
    go_wp2
    refine wp_loop_once ?_
    go_wp2
    go_ret
    exact ⟨rfl, rfl⟩

end Go.Proofs.Ytnfjmngchapdnaa
