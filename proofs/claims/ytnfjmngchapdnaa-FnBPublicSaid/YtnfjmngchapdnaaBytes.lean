/- Rows of bytes, and numbers read out of them. -/
import Derived.Test.YtnfjmngchapdnaaNat
namespace Go.Proofs.Ytnfjmngchapdnaa
open Go.RowKit

def LtB (L : List Nat) : Prop := ∀ x, x ∈ L → x < 256
theorem LtB.get {L : List Nat} (h : LtB L) (i : Nat) (hi : i < L.length) : L[i] < 256 := h _ (List.getElem_mem hi)
/-- The greatest byte first. -/
def bval (L : List Nat) : Nat := L.foldl (fun a x => a * 256 + x) 0
theorem foldl_bval (L : List Nat) : ∀ a, L.foldl (fun a x => a * 256 + x) a = a * 256 ^ L.length + bval L := by
  induction L with
  | nil => intro a; simp [bval]
  | cons x L ih =>
    intro a
    simp only [List.foldl_cons, bval, List.length_cons]
    rw [ih (a * 256 + x), ih (0 * 256 + x)]
    simp only [Nat.add_mul, Nat.pow_succ, Nat.zero_mul, Nat.zero_add]
    rw [Nat.mul_assoc a 256, Nat.mul_comm 256 (256 ^ L.length)]
    omega
theorem bval_append (L M : List Nat) : bval (L ++ M) = bval L * 256 ^ M.length + bval M := by
  unfold bval
  rw [List.foldl_append, foldl_bval]
  rfl
theorem bval_lt {L : List Nat} (h : LtB L) : bval L < 256 ^ L.length := by
  induction L with
  | nil => simp [bval]
  | cons x L ih =>
    have h1 := ih (fun y hy => h y (List.mem_cons_of_mem _ hy))
    have h2 := h x (List.mem_cons_self ..)
    rw [show x :: L = [x] ++ L from rfl, bval_append, List.length_append, Nat.pow_add]
    have h3 : bval [x] = x := by simp [bval]
    have h4 : (x + 1) * 256 ^ L.length ≤ 256 * 256 ^ L.length := Nat.mul_le_mul_right _ h2
    rw [h3]
    simp only [List.length_cons, List.length_nil, Nat.zero_add, Nat.pow_one]
    rw [Nat.add_mul] at h4
    omega

/-- The bytes L stand from o on in block b. -/
def BAt (w : World) (b o : Nat) (L : List Nat) : Prop := ∀ i (h : i < L.length), w.cell? ⟨b, o + i, none⟩ = some (.int .u8 (L[i] : Int))
theorem BAt.keeps {S : List Nat} {w w' : World} {b o : Nat} {L : List Nat} (h : BAt w b o L) (hb : b < w.heap.size) (hk : Keeps S w w') (hS : b ∉ S) : BAt w' b o L := by
  intro i hi
  rw [← h i hi]
  exact World.cell?_of_block (w := w) (hk.block b hb hS)
theorem BAt.drop {w : World} {b o : Nat} {L : List Nat} (h : BAt w b o L) (k : Nat) : BAt w b (o + k) (L.drop k) := by
  intro i hi
  have := h (k + i) (by simp at hi; omega)
  rw [List.getElem_drop, Nat.add_assoc]
  exact this
theorem BAt.take {w : World} {b o : Nat} {L : List Nat} (h : BAt w b o L) (k : Nat) : BAt w b o (L.take k) := by
  intro i hi
  have := h i (by simp at hi; omega)
  rw [List.getElem_take]
  exact this

theorem or_u32 (a b k : Nat) (ha : a < 2 ^ k) (h : 2 ^ k * b + a < 4294967296) : Go.bits .or .u32 (a : Int) ((2 ^ k * b : Nat) : Int) = ((2 ^ k * b + a : Nat) : Int) := by
  have h1 : (BitVec.ofInt 32 (a : Int)).toNat = a := by
    rw [BitVec.ofInt_natCast, BitVec.toNat_ofNat]; exact Nat.mod_eq_of_lt (by omega)
  have h2 : (BitVec.ofInt 32 ((2 ^ k * b : Nat) : Int)).toNat = 2 ^ k * b := by
    rw [BitVec.ofInt_natCast, BitVec.toNat_ofNat]; exact Nat.mod_eq_of_lt (by omega)
  show IntKind.u32.wrap ((BitVec.ofInt 32 (a : Int) ||| BitVec.ofInt 32 ((2 ^ k * b : Nat) : Int)).toNat : Int) = _
  rw [BitVec.toNat_or, h1, h2, Nat.or_comm, ← Nat.two_pow_add_eq_or_of_lt ha, IntKind.wrap_u32]
  omega
theorem be32_eq (x0 x1 x2 x3 : Nat) (b0 : x0 < 256) (b1 : x1 < 256) (b2 : x2 < 256) (b3 : x3 < 256) :
    Go.bits .or .u32 (Go.bits .or .u32 (Go.bits .or .u32 (x3 : Int) ((x2 : Int) * 256)) ((x1 : Int) * 65536)) ((x0 : Int) * 16777216) = ((bval [x0, x1, x2, x3] : Nat) : Int) := by
  have e1 := or_u32 x3 x2 8 (by omega) (by omega)
  have e2 := or_u32 (2 ^ 8 * x2 + x3) x1 16 (by omega) (by omega)
  have e3 := or_u32 (2 ^ 16 * x1 + (2 ^ 8 * x2 + x3)) x0 24 (by omega) (by omega)
  rw [show ((x2 : Int) * 256) = ((2 ^ 8 * x2 : Nat) : Int) by omega, e1, show ((x1 : Int) * 65536) = ((2 ^ 16 * x1 : Nat) : Int) by omega, e2, show ((x0 : Int) * 16777216) = ((2 ^ 24 * x0 : Nat) : Int) by omega, e3]
  simp only [bval, List.foldl_cons, List.foldl_nil]
  omega
theorem or_u64 (a b k : Nat) (ha : a < 2 ^ k) (h : 2 ^ k * b + a < BB) : Go.bits .or .u64 ((2 ^ k * b : Nat) : Int) (a : Int) = ((2 ^ k * b + a : Nat) : Int) := by
  unfold BB at h
  rw [bits_or_u64_nat _ _ (by omega) (by omega), ← Nat.two_pow_add_eq_or_of_lt ha]

set_option maxRecDepth 100000 in
set_option maxHeartbeats 1000000 in
theorem beUint32_any (b o n c x0 x1 x2 x3 : Nat) (L : List Nat) (w : World) (hb : BAt w b o (x0 :: x1 :: x2 :: x3 :: L)) (hl : LtB (x0 :: x1 :: x2 :: x3 :: L)) (hn : 4 ≤ n) (hc : n ≤ 1000000) :
    Calls Try.prog 86 #[.slice (some ⟨b, o, none⟩) n c] w fun e w' =>
      e = .returned (.int .u32 ((bval [x0, x1, x2, x3] : Nat) : Int)) ∧ Keeps [] w w' := by
  have c0 := hb 0 (by simp)
  have c1 := hb 1 (by simp)
  have c2 := hb 2 (by simp)
  have c3 := hb 3 (by simp)
  simp only [List.getElem_cons_zero, List.getElem_cons_succ, Nat.add_zero] at c0 c1 c2 c3
  have b0 := hl x0 (by simp)
  have b1 := hl x1 (by simp)
  have b2 := hl x2 (by simp)
  have b3 := hl x3 (by simp)
  have g0 : 0 < n := by omega
  have g1 : 1 < n := by omega
  have g2 : 2 < n := by omega
  have g3 : 3 < n := by omega
  clear hb hl
  go_enter Try.func86, Try.ntmps86
  go_wp2
  refine wp_region_txt [0,0,1,0,0,0,1,0,0,0,0,0,1,0,0,0,0,0,1,0,0,0,0] (fun _ => True) (by kernel_rfl) (by kernel_rfl) trivial ?_
  simp only [withMarks]
  repeat (first
    | ((with_reducible refine txt_v (v := ?_) ?_ ?_); (any_goals ((with_reducible refine Yl.mk ?_ ?_); rfl; intro w hSw; (go_simp <;> (try go_bits) <;> (try rw [if_pos (by omega)]) <;> with_reducible rfl))); try simp only [Act.put, List.setIfInBounds_toArray, List.set_cons_zero, List.set_cons_succ])
    | ((with_reducible refine txt_u ?_ ?_); rfl; try simp only [Act.put, List.setIfInBounds_toArray, List.set_cons_zero, List.set_cons_succ])
    | ((with_reducible refine txt_l (v := ?_) ?_ ?_); (any_goals ((with_reducible refine Reads.mk ?_ ?_); rfl; (go_simp <;> (try go_bits) <;> (try rw [if_pos (by omega)]) <;> with_reducible rfl))); try simp only [Act.put, List.setIfInBounds_toArray, List.set_cons_zero, List.set_cons_succ])
    | ((with_reducible refine txt_e ?_ ?_); rfl; intro K hK; go_simp; (first | (refine hK _ _ trivial ?_) | ((first | fail); dsimp only; refine hK _ _ trivial ?_)); clear hK K; try simp only [Act.put, List.setIfInBounds_toArray, List.set_cons_zero, List.set_cons_succ]))
  refine txt_nil ?_
  go_wp2
  go_ret
  refine ⟨ret_int ?_, (Keeps.refl _ _).drew⟩
  exact be32_eq x0 x1 x2 x3 b0 b1 b2 b3

theorem four_of {L : List Nat} (h : 4 ≤ L.length) : ∃ x0 x1 x2 x3 M, L = x0 :: x1 :: x2 :: x3 :: M := by
  match L, h with
  | x0 :: x1 :: x2 :: x3 :: M, _ => exact ⟨x0, x1, x2, x3, M, rfl⟩

theorem beUint32_L (b o n c : Nat) (L : List Nat) (w : World) (hb : BAt w b o L) (hl : LtB L) (h4 : 4 ≤ L.length) (hn : 4 ≤ n) (hc : n ≤ 1000000) :
    Calls Try.prog 86 #[.slice (some ⟨b, o, none⟩) n c] w fun e w' =>
      e = .returned (.int .u32 ((bval (L.take 4) : Nat) : Int)) ∧ Keeps [] w w' := by
  obtain ⟨x0, x1, x2, x3, M, rfl⟩ := four_of h4
  exact beUint32_any b o n c x0 x1 x2 x3 M w hb hl hn hc

theorem BAt.kept {w w' : World} {b o : Nat} {L : List Nat} (h : BAt w b o L) (hb : b < w.heap.size) (hk : Keeps [] w w') : BAt w' b o L := h.keeps hb hk (by simp)
theorem BAt.drew {w : World} {b o : Nat} {L : List Nat} (h : BAt w b o L) : BAt w.drew b o L := h

set_option maxRecDepth 100000 in
set_option maxHeartbeats 1000000 in
theorem beUint64_any (b o n c : Nat) (L : List Nat) (w : World) (hb : BAt w b o L) (hbl : b < w.heap.size) (hl : LtB L) (h8 : 8 ≤ L.length) (hn : 8 ≤ n) (hnc : n ≤ c) (hc : n ≤ 1000000) :
    Calls Try.prog 85 #[.slice (some ⟨b, o, none⟩) n c] w fun e w' =>
      e = .returned (.int .u64 ((bval (L.take 8) : Nat) : Int)) ∧ Keeps [] w w' := by
  have c7 := hb 7 (by omega)
  have g7 : (7 : Int) < (n : Int) := by omega
  have g4 : (4 : Int) ≤ (n : Int) := by omega
  have e1 : ¬ ((c : Nat) = 4) := by omega
  have e2 : ¬ (4 : Int) = (c : Int) := by omega
  obtain ⟨H, hH⟩ : ∃ H, H = bval (L.take 4) := ⟨_, rfl⟩
  obtain ⟨T, hT⟩ : ∃ T, T = bval ((L.drop 4).take 4) := ⟨_, rfl⟩
  have hHl : H < 4294967296 := by
    have := bval_lt (L := L.take 4) (fun x hx => hl x (List.mem_of_mem_take hx))
    rw [← hH, List.length_take, Nat.min_eq_left (by omega)] at this; exact this
  have hTl : T < 4294967296 := by
    have := bval_lt (L := (L.drop 4).take 4) (fun x hx => hl x (List.mem_of_mem_drop (List.mem_of_mem_take hx)))
    rw [← hT, List.length_take, List.length_drop, Nat.min_eq_left (by omega)] at this; exact this
  have hfin : bval (L.take 8) = 2 ^ 32 * H + T := by
    have e : L.take 8 = L.take 4 ++ (L.drop 4).take 4 := by
      rw [show (8 : Nat) = 4 + 4 from rfl, List.take_add]
    rw [e, bval_append, ← hH, ← hT, List.length_take, List.length_drop, Nat.min_eq_left (by omega)]
    omega
  have hor := or_u64 T H 32 (by omega) (by unfold BB; omega)
  rw [show ((2 ^ 32 * H : Nat) : Int) = (H : Int) * 4294967296 by omega] at hor
  have K1 := fun w' (hk : Keeps [] w w') => beUint32_L b o n c L w' (hb.kept hbl hk) hl (by omega) (by omega) hc
  have K2 := fun w' (hk : Keeps [] w w') => beUint32_L b (o + 4) (n - 4) (c - 4) (L.drop 4) w' ((hb.drop 4).kept hbl hk) (fun x hx => hl x (List.mem_of_mem_drop hx)) (by simp; omega) (by omega) (by omega)
  rw [← hH] at K1
  rw [← hT] at K2
  have HK1 := Lib.hid K1; have HK2 := Lib.hid K2; have Hfin := Lib.hid hfin; have Hor := Lib.hid hor
  have hkw : Keeps [] w w.drew := (Keeps.refl _ _).drew
  clear hb hl hH hT K1 K2 hfin hor
  go_enter Try.func85, Try.ntmps85
  go_wp2
  refine wp_region_txt [0,2,0,0,0,0,2,0,0,0] (fun _ => True) (by kernel_rfl) (by kernel_rfl) trivial ?_
  simp only [withMarks]
  repeat (first
    | ((with_reducible refine txt_v (v := ?_) ?_ ?_); (any_goals ((with_reducible refine Yl.mk ?_ ?_); rfl; intro w hSw; (go_simp <;> (try go_bits) <;> (try rw [if_pos (by omega)]) <;> with_reducible rfl))); try simp only [Act.put, List.setIfInBounds_toArray, List.set_cons_zero, List.set_cons_succ])
    | ((with_reducible refine txt_u ?_ ?_); rfl; try simp only [Act.put, List.setIfInBounds_toArray, List.set_cons_zero, List.set_cons_succ])
    | ((with_reducible refine txt_l (v := ?_) ?_ ?_); (any_goals ((with_reducible refine Reads.mk ?_ ?_); rfl; (go_simp <;> (try go_bits) <;> (try rw [if_pos (by omega)]) <;> with_reducible rfl))); try simp only [Act.put, List.setIfInBounds_toArray, List.set_cons_zero, List.set_cons_succ])
    | ((with_reducible refine txt_e ?_ ?_); rfl; intro K hK; go_simp; (first | (refine hK _ _ trivial ?_) | ((first | (go_at_call 86; refine (HK2.out _ (hkw.trans1 hk1)).mono ?_; rintro e w2 ⟨rfl, hk2⟩) | (go_at_call 86; refine (HK1.out _ hkw).mono ?_; rintro e w1 ⟨rfl, hk1⟩)); dsimp only; refine hK _ _ trivial ?_)); clear hK K; try simp only [Act.put, List.setIfInBounds_toArray, List.set_cons_zero, List.set_cons_succ]))
  refine txt_nil ?_
  go_wp2
  go_ret
  exact ⟨ret_int (by rw [Hfin.out, ← Hor.out]), (hkw.trans1 hk1).trans1 hk2⟩

end Go.Proofs.Ytnfjmngchapdnaa
