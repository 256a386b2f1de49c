/- A region that draws its order, walked once in the order of the text: operations that stand in no order may be exchanged where one of them yields its value in every world that meets S, or both only read. -/
import Derived.WalkKit
import Derived.OrdersHeld
import Derived.StillTail
namespace Go.Proofs.YtnfjmngchapdnaaGreatDoor
open Go

section
variable {P : Program} {ops : Array Oper} {Q : Exit → Act → World → Prop} {S : World → Prop}

/-- Q at a plain end; nothing else is an end. -/
def QN (Q : Exit → Act → World → Prop) : Exit → Act → World → Prop
  | .normal, a, w => Q .normal a w
  | _, _, _ => False
theorem QN.imp {Q : Exit → Act → World → Prop} : ∀ (e : Exit) (a : Act) (w : World), QN Q e a w → Q e a w := fun e a w h => by
  cases e <;> first | exact h | exact (h : False).elim
theorem QN.noOut : ¬ LetsOut (QN Q) := fun ⟨_, _, h⟩ => h

/-- One step: 0: a value in every world that meets S; 1: it reads; 2: anything, and S holds behind it. -/
def stp (P : Program) (ops : Array Oper) (Q : Exit → Act → World → Prop) (S : World → Prop) (m : Nat) (o : Oper) (K : Act → World → Prop) (a : Act) (w : World) : Prop :=
  match m with
  | 0 => ∃ v, YieldsIf P ops S o v a ∧ K (a.put o.dst v) w
  | 1 => Region.wanted o (yielded ops a.tmps) = true ∧ ∃ v, (execOp a.eval o).run P w = .ok (.value v) w ∧ K (a.put o.dst v) w
  | _ => Region.wanted o (yielded ops a.tmps) = true ∧ o.wp P a w (fun a' w' => S w' ∧ K a' w') (QN Q)

theorem stp_mono {m : Nat} {o : Oper} {K K' : Act → World → Prop} {a : Act} {w : World} (h : ∀ a w, K a w → K' a w) (hs : stp P ops Q S m o K a w) : stp P ops Q S m o K' a w := by
  match m with
  | 0 => obtain ⟨v, h1, h2⟩ := hs; exact ⟨v, h1, h _ _ h2⟩
  | 1 => obtain ⟨h0, v, h1, h2⟩ := hs; exact ⟨h0, v, h1, h _ _ h2⟩
  | n + 2 => exact ⟨hs.1, Oper.wp_mono (fun a w hk => ⟨hk.1, h _ _ hk.2⟩) hs.2⟩

/-- The text's order. -/
def txt (P : Program) (ops : Array Oper) (Q : Exit → Act → World → Prop) (S : World → Prop) : List (Nat × Oper) → Act → World → Prop
  | [], a, w => Q .normal a w
  | (m, o) :: rest, a, w => stp P ops Q S m o (txt P ops Q S rest) a w

/-- Under 'QN' an operation that leads somewhere leads to a plain end: what is true of every end and a proposition that does not hang on it is true. -/
theorem wp_out {o : Oper} {a : Act} {w : World} {K : Act → World → Prop} {p : Prop} (h : o.wp P a w K (QN Q)) (hp : ∀ a' w', K a' w' → p) : p := by
  unfold Oper.wp at h
  generalize (execOp a.eval o).run P w = r at *
  cases r with
  | ok n w' =>
    cases n <;> simp only [Oper.upon] at h
    case value u => exact hp _ _ h
    case skip => exact hp _ _ h
    case defer d => exact hp _ _ h
    case enter f args =>
      obtain ⟨e, w'', fr, he, _⟩ := h []
      cases e with
      | returned u => exact hp _ _ he
      | panicked c => exact (he : False).elim
      | outgrown => exact (QN.noOut he).elim
    case row row args =>
      obtain ⟨v, w'', he, _⟩ := h default []
      exact hp _ _ he
  | halt x w' =>
    cases x <;> simp only [Oper.upon] at h
    case panic u => exact (h : False).elim

/-- The kept fact under an operation apart. -/
theorem yields_put {oi oj : Oper} {v : Value} (hap : oi.apart ops oj = true) (hsi : ∀ cs b, oi.op ≠ .select cs b) {a : Act} (u : Value) :
    YieldsIf P ops S oi v (a.put oj.dst u) ↔ YieldsIf P ops S oi v a := by
  obtain ⟨h1, h2, h3⟩ := Oper.apart_spec hap
  unfold YieldsIf
  rw [execOp_put oi hsi a oj.dst u h3, wanted_put oi a oj.dst u h3]

/-- What stands behind an operation, carried through another one that is apart from it. -/
theorem wp_carry {oi oj : Oper} {v : Value} (hap : oi.apart ops oj = true) (hsj : ∀ cs b, oj.op ≠ .select cs b) {K : Act → World → Prop} {a : Act} {w : World}
    (h : oj.wp P (a.put oi.dst v) w K (QN Q)) : oj.wp P a w (fun a' w' => K (a'.put oi.dst v) w' ∧ ((∃ u, a' = a.put oj.dst u) ∨ ∃ d u, a' = ({ a with defers := d :: a.defers } : Act).put oj.dst u)) (QN Q) := by
  obtain ⟨h1, h2, h3⟩ := Oper.apart_spec hap
  unfold Oper.wp at *
  rw [execOp_put oj hsj a oi.dst v h1] at h
  generalize (execOp a.eval oj).run P w = r at *
  cases r with
  | ok n w' =>
    cases n <;> simp only [Oper.upon] at h ⊢
    case value u => exact ⟨by rw [← Act.put_comm a v u h2]; exact h, .inl ⟨u, rfl⟩⟩
    case skip => exact ⟨by rw [← Act.put_comm a v undef h2]; exact h, .inl ⟨_, rfl⟩⟩
    case defer d => exact ⟨by rw [← Act.put_comm _ v undef h2, ← Act.put_defers]; exact h, .inr ⟨d, _, rfl⟩⟩
    case enter f args =>
      refine Calls.mono h fun e w'' he => ?_
      cases e with
      | returned u => exact ⟨by rw [← Act.put_comm a v u h2]; exact he, .inl ⟨u, rfl⟩⟩
      | panicked c => exact he
      | outgrown => exact he
    case row row args => exact Rows.mono h fun u w'' he => ⟨by rw [← Act.put_comm a v u h2]; exact he, .inl ⟨u, rfl⟩⟩
  | halt x w' =>
    cases x <;> simp only [Oper.upon] at h ⊢
    case panic u => exact (h : False).elim

theorem wp_keep {o : Oper} {K : Act → World → Prop} {a : Act} {w : World} (h : o.wp P a w K (QN Q)) :
    o.wp P a w (fun a' w' => K a' w' ∧ ((∃ u, a' = a.put o.dst u) ∨ ∃ d u, a' = ({ a with defers := d :: a.defers } : Act).put o.dst u)) (QN Q) := by
  unfold Oper.wp at *
  generalize (execOp a.eval o).run P w = r at *
  cases r with
  | ok n w' =>
    cases n <;> simp only [Oper.upon] at h ⊢
    case value u => exact ⟨h, .inl ⟨u, rfl⟩⟩
    case skip => exact ⟨h, .inl ⟨_, rfl⟩⟩
    case defer d => exact ⟨h, .inr ⟨d, _, rfl⟩⟩
    case enter f args =>
      refine Calls.mono h fun e w'' he => ?_
      cases e with
      | returned u => exact ⟨he, .inl ⟨u, rfl⟩⟩
      | panicked c => exact he
      | outgrown => exact he
    case row row args => exact Rows.mono h fun u w'' he => ⟨he, .inl ⟨u, rfl⟩⟩
  | halt x w' =>
    cases x <;> simp only [Oper.upon] at h ⊢
    case panic u => exact (h : False).elim

theorem apart_comm {x y : Oper} (h : x.apart ops y = true) (hd : ∀ d, x.dst = some d → y.dst ≠ some d) : y.apart ops x = true := by
  obtain ⟨h1, h2, h3⟩ := Oper.apart_spec h
  unfold Oper.apart
  refine Bool.and_eq_true_iff.2 ⟨?_, ?_⟩
  · cases hy : y.dst with
    | none => rfl
    | some e =>
      refine Bool.and_eq_true_iff.2 ⟨by simpa using h3 e hy, ?_⟩
      cases hx : x.dst with
      | none => rfl
      | some d =>
        have h5 := hd d hx
        rw [hy] at h5
        simpa using fun he : d = e => h5 (by rw [he])
  · cases hx : x.dst with
    | none => rfl
    | some d => simpa using h1 d hx

theorem yieldsIf_put' {oi oj : Oper} {v : Value} (hap : oi.apart ops oj = true) (hsi : ∀ cs b, oi.op ≠ .select cs b) {a a' : Act}
    (ha : (∃ u, a' = a.put oj.dst u) ∨ ∃ d u, a' = ({ a with defers := d :: a.defers } : Act).put oj.dst u) : YieldsIf P ops S oi v a' ↔ YieldsIf P ops S oi v a := by
  rcases ha with ⟨u, rfl⟩ | ⟨d, u, rfl⟩
  · exact yields_put hap hsi u
  · rw [yields_put hap hsi u]
    exact Iff.rfl

theorem yieldsIf_val {oi : Oper} {u v : Value} {a : Act} {w : World} (hS : S w) (h1 : YieldsIf P ops S oi u a) (h2 : YieldsIf P ops S oi v a) : u = v := by
  rcases h1 with ⟨a1, b1⟩ | ⟨a1, rfl⟩ <;> rcases h2 with ⟨a2, b2⟩ | ⟨a2, rfl⟩
  · have := (b1 w hS).symm.trans (b2 w hS)
    simp at this
    exact this
  · rw [a1] at a2; cases a2
  · rw [a1] at a2; cases a2
  · rfl

/-- May the second be taken first? -/
def swapB (m n : Nat) : Bool := m == 0 || n == 0 || (m == 1 && n == 1)

theorem swap {m n : Nat} {x y : Oper} (hap : x.apart ops y = true) (hsx : ∀ cs b, x.op ≠ .select cs b) (hsy : ∀ cs b, y.op ≠ .select cs b) (hmn : swapB m n = true)
    {K : Act → World → Prop} {a : Act} {w : World} (hS : S w) (h : stp P ops Q S m x (stp P ops Q S n y K) a w) : stp P ops Q S n y (stp P ops Q S m x K) a w := by
  obtain ⟨h1, h2, h3⟩ := Oper.apart_spec hap
  have hap' := apart_comm hap h2
  match m, n with
  | 0, 0 =>
    obtain ⟨v, hv, u, hu, hk⟩ := h
    rw [yields_put hap' hsy] at hu
    exact ⟨u, hu, v, (yields_put hap hsx u).2 hv, by rw [← Act.put_comm a v u h2]; exact hk⟩
  | 0, 1 =>
    obtain ⟨v, hv, hw, u, hu, hk⟩ := h
    rw [wanted_put y a x.dst v h1] at hw
    rw [execOp_put y hsy a x.dst v h1] at hu
    exact ⟨hw, u, hu, v, (yields_put hap hsx u).2 hv, by rw [← Act.put_comm a v u h2]; exact hk⟩
  | 0, n + 2 =>
    obtain ⟨v, hv, hw, hu⟩ := h
    rw [wanted_put y a x.dst v h1] at hw
    exact ⟨hw, Oper.wp_mono (fun a' w' hk => ⟨hk.1.1, v, (yieldsIf_put' hap hsx hk.2).2 hv, hk.1.2⟩) (wp_carry hap hsy hu)⟩
  | 1, 0 =>
    obtain ⟨hw, v, hv, u, hu, hk⟩ := h
    rw [yields_put hap' hsy] at hu
    refine ⟨u, hu, ?_, v, ?_, by rw [← Act.put_comm a v u h2]; exact hk⟩
    · rw [wanted_put x a y.dst u h3]; exact hw
    · rw [execOp_put x hsx a y.dst u h3]; exact hv
  | 1, 1 =>
    obtain ⟨hw, v, hv, hw', u, hu, hk⟩ := h
    rw [wanted_put y a x.dst v h1] at hw'
    rw [execOp_put y hsy a x.dst v h1] at hu
    refine ⟨hw', u, hu, ?_, v, ?_, by rw [← Act.put_comm a v u h2]; exact hk⟩
    · rw [wanted_put x a y.dst u h3]; exact hw
    · rw [execOp_put x hsx a y.dst u h3]; exact hv
  | m + 2, 0 =>
    obtain ⟨hw, hx⟩ := h
    -- the value that y yields hangs on what stands before x
    obtain ⟨u, hu⟩ : ∃ u, YieldsIf P ops S y u a := by
      have hc := wp_keep hx
      exact wp_out hc fun a' w' hk => by
        obtain ⟨⟨_, u, hu, _⟩, ha⟩ := hk
        exact ⟨u, (yieldsIf_put' hap' hsy ha).1 hu⟩
    refine ⟨u, hu, by rw [wanted_put x a y.dst u h3]; exact hw, ?_⟩
    have hcar := wp_keep hx
    have hx' : x.wp P a w (fun a' w' => S w' ∧ K (a'.put y.dst u) w') (QN Q) := Oper.wp_mono (fun a' w' hk => by
      obtain ⟨⟨hs, u', hu', hk⟩, ha⟩ := hk
      have := yieldsIf_val hS ((yieldsIf_put' hap' hsy ha).1 hu') hu
      subst this
      exact ⟨hs, hk⟩) hcar
    -- and x does not see it
    unfold Oper.wp at hx' ⊢
    rw [execOp_put x hsx a y.dst u h3]
    generalize (execOp a.eval x).run P w = r at *
    have hyx : ∀ d, y.dst = some d → x.dst ≠ some d := fun d hd he => h2 d he hd
    cases r with
    | ok n w' =>
      cases n <;> simp only [Oper.upon] at hx' ⊢
      case value v => exact ⟨hx'.1, by rw [Act.put_comm a u v hyx]; exact hx'.2⟩
      case skip => exact ⟨hx'.1, by rw [Act.put_comm a u undef hyx]; exact hx'.2⟩
      case defer d => exact ⟨hx'.1, by rw [Act.put_defers, Act.put_comm _ u undef hyx]; exact hx'.2⟩
      case enter f args =>
        refine Calls.mono hx' fun e w'' he => ?_
        cases e with
        | returned v => exact ⟨he.1, by rw [Act.put_comm a u v hyx]; exact he.2⟩
        | panicked c => exact he
        | outgrown => exact he
      case row row args => exact Rows.mono hx' fun v w'' he => ⟨he.1, by rw [Act.put_comm a u v hyx]; exact he.2⟩
    | halt z w' =>
      cases z <;> simp only [Oper.upon] at hx' ⊢
      case panic v => exact hx'
  | 1, n + 2 => simp [swapB] at hmn
  | m + 2, 1 => simp [swapB] at hmn
  | m + 2, n + 2 => simp [swapB] at hmn

theorem stp_S {m : Nat} {o : Oper} {K : Act → World → Prop} {a : Act} {w : World} (hS : S w) (h : stp P ops Q S m o K a w) : stp P ops Q S m o (fun a' w' => S w' ∧ K a' w') a w := by
  match m with
  | 0 => obtain ⟨v, h1, h2⟩ := h; exact ⟨v, h1, hS, h2⟩
  | 1 => obtain ⟨h0, v, h1, h2⟩ := h; exact ⟨h0, v, h1, hS, h2⟩
  | n + 2 => exact ⟨h.1, Oper.wp_mono (fun a w hk => ⟨hk.1, hk.1, hk.2⟩) h.2⟩

/-- The text's order, of those operations that are named. -/
def txtI (P : Program) (ops : Array Oper) (Q : Exit → Act → World → Prop) (S : World → Prop) (ms : List Nat) : List Nat → Act → World → Prop
  | [], a, w => Q .normal a w
  | i :: rest, a, w => match ops[i]? with
    | some o => stp P ops Q S (ms.getD i 2) o (txtI P ops Q S ms rest) a w
    | none => False

/-- May number k be taken ahead of number l? -/
def pairB (ops : Array Oper) (ms : List Nat) (l k : Nat) : Bool :=
  swapB (ms.getD l 2) (ms.getD k 2) && match ops[l]?, ops[k]? with
    | some x, some y => x.apart ops y
    | _, _ => false

theorem txtI_front {ms : List Nat} (hsel : Region.noSelect ops = true) : ∀ (pre : List Nat) (k : Nat) (post : List Nat) (ok : Oper) (a : Act) (w : World), ops[k]? = some ok →
    (∀ l ∈ pre, pairB ops ms l k = true) → S w → txtI P ops Q S ms (pre ++ k :: post) a w → stp P ops Q S (ms.getD k 2) ok (txtI P ops Q S ms (pre ++ post)) a w
  | [], k, post, ok, a, w, hk, _, _, h => by
    simp only [List.nil_append, txtI, hk] at h
    exact h
  | l :: pre, k, post, ok, a, w, hk, hp, hS, h => by
    have hl := hp l (List.mem_cons_self ..)
    unfold pairB at hl
    simp only [List.cons_append, txtI] at h
    cases hol : ops[l]? with
    | none => simp [hol] at hl
    | some ol =>
      simp only [hol, hk, Bool.and_eq_true] at hl h
      have h2 := stp_mono (K' := stp P ops Q S (ms.getD k 2) ok (txtI P ops Q S ms (pre ++ post))) (fun a' w' hk' => txtI_front hsel pre k post ok a' w' hk (fun l' hl' => hp l' (List.mem_cons_of_mem _ hl')) hk'.1 hk'.2) (stp_S hS h)
      have h3 := swap hl.2 (fun cs b => Region.noSelect_spec hsel l ol cs b hol) (fun cs b => Region.noSelect_spec hsel k ok cs b hk) hl.1 hS h2
      exact stp_mono (fun a' w' hk' => by simp only [List.cons_append, txtI, hol]; exact hk') h3

/-- What number k waits for, by its own edges and by those of whom it waits for. -/
def ups (B : Array Nat) : List Edge → Nat
  | [] => 0
  | e :: es => if Region.binds .any e then 2 ^ e.on ||| B.getD e.on 0 ||| ups B es else ups B es
theorem ups_spec {B : Array Nat} {l : Nat} : ∀ {es : List Edge}, (ups B es).testBit l = true → ∃ e ∈ es, Region.binds .any e = true ∧ (e.on = l ∨ (B.getD e.on 0).testBit l = true)
  | [], h => by simp [ups] at h
  | e :: es, h => by
    unfold ups at h
    split at h
    · rename_i hb
      simp only [Nat.testBit_or, Bool.or_eq_true] at h
      rcases h with (h | h) | h
      · rw [Nat.testBit_two_pow] at h
        exact ⟨e, List.mem_cons_self .., hb, .inl (by simpa using h)⟩
      · exact ⟨e, List.mem_cons_self .., hb, .inr h⟩
      · obtain ⟨e', he, hr⟩ := ups_spec h
        exact ⟨e', List.mem_cons_of_mem _ he, hr⟩
    · obtain ⟨e', he, hr⟩ := ups_spec h
      exact ⟨e', List.mem_cons_of_mem _ he, hr⟩

/-- The closed facts of a region. -/
def okB (ops : Array Oper) (ms : List Nat) (B : Array Nat) : Bool :=
  Region.noSelect ops && (List.range ops.size).all fun k => match ops[k]? with
    | none => false
    | some o => (o.after.toList.all fun e => !Region.binds .any e || decide (e.on < k)) && (B.getD k 0 ||| ups B o.after.toList) == ups B o.after.toList &&
      (List.range k).all fun l => (B.getD k 0).testBit l || pairB ops ms l k

def rem (n : Nat) (listed : Array Bool) : List Nat := (List.range n).filter fun i => !listed.getD i true

def Closed (ops : Array Oper) (listed : Array Bool) : Prop := ∀ (j : Nat) (o : Oper), ops[j]? = some o → listed.getD j false = true → ∀ e ∈ o.after, Region.binds .any e = true → listed.getD e.on false = true

theorem okB_spec {ms : List Nat} {B : Array Nat} (h : okB ops ms B = true) {k : Nat} {o : Oper} (hk : ops[k]? = some o) :
    (∀ e ∈ o.after, Region.binds .any e = true → e.on < k) ∧ (∀ l, (B.getD k 0).testBit l = true → (ups B o.after.toList).testBit l = true) ∧ (∀ l, l < k → (B.getD k 0).testBit l = true ∨ pairB ops ms l k = true) := by
  unfold okB at h
  simp only [Bool.and_eq_true, List.all_eq_true, List.mem_range] at h
  have h1 := h.2 k (Array.getElem?_eq_some_iff.1 hk).1
  simp only [hk, Bool.and_eq_true, List.all_eq_true, List.mem_range, Bool.or_eq_true, beq_iff_eq, decide_eq_true_eq, Bool.not_eq_true'] at h1
  refine ⟨fun e he hb => ?_, fun l hl => ?_, fun l hl => h1.2 l hl⟩
  · rcases h1.1.1 e (by simpa using he) with h2 | h2
    · rw [hb] at h2; cases h2
    · exact h2
  · rw [← h1.1.2, Nat.testBit_or, hl]; rfl

theorem listed_of_bit {ms : List Nat} {B : Array Nat} (h : okB ops ms B = true) {listed : Array Bool} (hc : Closed ops listed) :
    ∀ (n k : Nat) (o : Oper) (l : Nat), k < n → ops[k]? = some o → (∀ e ∈ o.after, Region.binds .any e = true → listed.getD e.on false = true) → (B.getD k 0).testBit l = true → listed.getD l false = true := by
  intro n
  induction n with
  | zero => intro k o l hk; omega
  | succ n ih =>
    intro k o l hk ho hd hb
    obtain ⟨h1, h2, _⟩ := okB_spec h ho
    obtain ⟨e, he, hbi, hr⟩ := ups_spec (h2 l hb)
    have he' : e ∈ o.after := by simpa using he
    rcases hr with rfl | hr
    · exact hd e he' hbi
    · have hlt := h1 e he' hbi
      have hon : e.on < ops.size := by have := (Array.getElem?_eq_some_iff.1 ho).1; omega
      exact ih e.on ops[e.on] l (by omega) (by simp [hon]) (hc e.on _ (by simp [hon]) (hd e he' hbi)) hr

theorem getD_flip {listed : Array Bool} {i : Nat} (hi : i < listed.size) : listed.getD i true = listed.getD i false := by simp [hi]

theorem wpAny_of_txt {ms : List Nat} {B : Array Nat} (h : okB ops ms B = true) : ∀ (fuel : Nat) (listed : Array Bool) (a : Act) (w : World),
    listed.size = ops.size → Closed ops listed → (rem ops.size listed).length = fuel → S w → txtI P ops Q S ms (rem ops.size listed) a w → wpAny P .any ops (QN Q) fuel listed a w := by
  have hsel : Region.noSelect ops = true := by unfold okB at h; exact (Bool.and_eq_true_iff.1 h).1
  intro fuel
  induction fuel with
  | zero =>
    intro listed a w hsz hc hlen hS ht
    have hr : rem ops.size listed = [] := List.length_eq_zero_iff.1 hlen
    rw [hr] at ht
    refine ⟨?_, ht⟩
    refine List.eq_nil_iff_forall_not_mem.2 fun j hj => ?_
    obtain ⟨h0, o, ho, _⟩ := mem_ready.1 hj
    have hm : j ∈ rem ops.size listed := by
      unfold rem
      exact List.mem_filter.2 ⟨List.mem_range.2 (Array.getElem?_eq_some_iff.1 ho).1, by simp only [h0, Bool.not_false]⟩
    rw [hr] at hm
    cases hm
  | succ fuel ih =>
    intro listed a w hsz hc hlen hS ht
    refine ⟨fun hr => ?_, fun k hk => ?_⟩
    · -- the first that has not come up may come up
      exfalso
      cases hrem : rem ops.size listed with
      | nil => rw [hrem] at hlen; cases hlen
      | cons k rest =>
        have hkm : k ∈ rem ops.size listed := by rw [hrem]; exact List.mem_cons_self ..
        unfold rem at hkm
        obtain ⟨hk1, hk2⟩ := List.mem_filter.1 hkm
        have hk1 := List.mem_range.1 hk1
        have : k ∈ Region.ready .any ops listed := by
          refine mem_ready.2 ⟨by simpa using hk2, ops[k], by simp [hk1], fun e he hb => ?_⟩
          have hlt := (okB_spec h (show ops[k]? = some ops[k] by simp [hk1])).1 e he hb
          cases hl : listed.getD e.on true with
          | true => rw [← getD_flip (by omega)]; exact hl
          | false =>
            have hm : e.on ∈ rem ops.size listed := by
              unfold rem
              exact List.mem_filter.2 ⟨List.mem_range.2 (by omega), by simp only [hl, Bool.not_false]⟩
            have hsorted : (rem ops.size listed).Pairwise (· < ·) := List.Pairwise.filter _ List.pairwise_lt_range
            rw [hrem] at hm hsorted
            rcases List.mem_cons.1 hm with hm | hm
            · omega
            · have := (List.pairwise_cons.1 hsorted).1 _ hm; omega
        rw [hr] at this
        cases this
    · obtain ⟨h0, o, ho, hd⟩ := mem_ready.1 hk
      have hklt := (Array.getElem?_eq_some_iff.1 ho).1
      have hm : k ∈ rem ops.size listed := by
        unfold rem
        exact List.mem_filter.2 ⟨List.mem_range.2 hklt, by simp only [h0, Bool.not_false]⟩
      obtain ⟨pre, post, hsplit⟩ := List.append_of_mem hm
      have hsorted : (rem ops.size listed).Pairwise (· < ·) := List.Pairwise.filter _ List.pairwise_lt_range
      rw [hsplit] at ht hsorted
      have hlt : ∀ l ∈ pre, l < k := fun l hl => (List.pairwise_append.1 hsorted).2.2 l hl k (List.mem_cons_self ..)
      have hgt : ∀ l ∈ post, k < l := fun l hl => (List.pairwise_cons.1 (List.pairwise_append.1 hsorted).2.1).1 l hl
      have hpair : ∀ l ∈ pre, pairB ops ms l k = true := fun l hl => by
        rcases (okB_spec h ho).2.2 l (hlt l hl) with hb | hb
        · exfalso
          have h1 := listed_of_bit h hc (k + 1) k o l (by omega) ho hd hb
          have h2 : l ∈ rem ops.size listed := by rw [hsplit]; exact List.mem_append_left _ hl
          unfold rem at h2
          have h3 := (List.mem_filter.1 h2).2
          have h4 := List.mem_range.1 (List.mem_filter.1 h2).1
          rw [getD_flip (by omega), h1] at h3
          cases h3
        · exact hb
      have hrem' : rem ops.size (listed.setIfInBounds k true) = pre ++ post := by
        have e1 : rem ops.size (listed.setIfInBounds k true) = (rem ops.size listed).filter (fun i => i != k) := by
          unfold rem
          rw [List.filter_filter]
          refine List.filter_congr fun i hi => ?_
          have hi := List.mem_range.1 hi
          by_cases hik : k = i
          · subst hik; simp [show k < listed.size by omega]
          · rw [getD_set_ne true hik]; simp [Ne.symm hik]
        rw [e1, hsplit, List.filter_append, List.filter_cons]
        have e2 : pre.filter (fun i => i != k) = pre := List.filter_eq_self.2 fun l hl => by have := hlt l hl; simp; omega
        have e3 : post.filter (fun i => i != k) = post := List.filter_eq_self.2 fun l hl => by have := hgt l hl; simp; omega
        rw [e2, e3]; simp
      have hst := stp_S hS (txtI_front hsel pre k post o a w ho hpair hS ht)
      have hc' : Closed ops (listed.setIfInBounds k true) := fun j oj hj hl e he hb => by
        by_cases hjk : k = j
        · subst hjk
          rw [ho] at hj; cases hj
          exact getD_set_true (hd e he hb)
        · rw [getD_set_ne false hjk] at hl
          exact getD_set_true (hc j oj hj hl e he hb)
      have hgo : ∀ a' w', S w' ∧ txtI P ops Q S ms (pre ++ post) a' w' → wpAny P .any ops (QN Q) fuel (listed.setIfInBounds k true) a' w' := fun a' w' hk' =>
        ih _ a' w' (by simp [hsz]) hc' (by rw [hrem']; rw [hsplit] at hlen; simp at hlen ⊢; omega) hk'.1 (by rw [hrem']; exact hk'.2)
      unfold wpOp
      simp only [ho]
      generalize ms.getD k 2 = m at hst
      match m with
      | 0 =>
        obtain ⟨v, hv, hk'⟩ := hst
        have := YieldsIf.wpOp (Q := QN Q) ho hv hS (hgo _ _ hk')
        unfold wpOp at this
        simpa only [ho] using this
      | 1 =>
        obtain ⟨hw, v, hv, hk'⟩ := hst
        rw [if_pos hw]
        refine .inl ?_
        unfold Oper.wp
        rw [hv]
        exact hgo _ _ hk'
      | m + 2 =>
        rw [if_pos hst.1]
        exact .inl (Oper.wp_mono (fun a' w' hk' => hgo a' w' hk'.2) hst.2)

theorem txtI_of_txt {ms : List Nat} : ∀ (l : List Oper) (j : Nat), (∀ i, l[i]? = ops[j + i]?) → ∀ a w, txt P ops Q S ((List.range' j l.length).map fun i => (ms.getD i 2, ops.getD i default)) a w → txtI P ops Q S ms (List.range' j l.length) a w
  | [], j, _, a, w, h => h
  | o :: l, j, hl, a, w, h => by
    have h0 : ops[j]? = some o := by simpa using (hl 0).symm
    simp only [List.length_cons, List.range'_succ, List.map_cons, txt] at h
    simp only [List.length_cons, List.range'_succ, txtI, h0]
    have e : ops.getD j default = o := by simp [Array.getD_eq_getD_getElem?, h0]
    rw [e] at h
    exact stp_mono (fun a' w' hk => txtI_of_txt l (j + 1) (fun i => by have := hl (i + 1); simpa [Nat.add_assoc, Nat.add_comm 1 i] using this) a' w' hk) h

/-- The operations with their kinds. -/
def withMarks : List Nat → List Oper → List (Nat × Oper)
  | _, [] => []
  | [], o :: l => (2, o) :: withMarks [] l
  | m :: ms, o :: l => (m, o) :: withMarks ms l

theorem withMarks_eq (ms0 : List Nat) : ∀ (l : List Oper) (j : Nat) (ms : List Nat), (∀ i, l[i]? = ops[j + i]?) → (∀ i, ms.getD i 2 = ms0.getD (j + i) 2) →
    withMarks ms l = (List.range' j l.length).map fun i => (ms0.getD i 2, ops.getD i default)
  | [], j, ms, _, _ => by cases ms <;> rfl
  | o :: l, j, ms, hl, hm => by
    have h0 : ops[j]? = some o := by simpa using (hl 0).symm
    have e : ops.getD j default = o := by simp [Array.getD_eq_getD_getElem?, h0]
    have hm0 := hm 0
    simp only [Nat.add_zero] at hm0
    have hl' : ∀ i, l[i]? = ops[(j + 1) + i]? := fun i => by have := hl (i + 1); simpa [Nat.add_assoc, Nat.add_comm 1 i] using this
    cases ms with
    | nil =>
      simp only [withMarks, List.length_cons, List.range'_succ, List.map_cons, e]
      rw [← hm0, withMarks_eq ms0 l (j + 1) [] hl' (fun i => by have := hm (i + 1); simpa [Nat.add_assoc, Nat.add_comm 1 i] using this)]
      rfl
    | cons m ms =>
      simp only [withMarks, List.length_cons, List.range'_succ, List.map_cons, e]
      rw [← hm0, withMarks_eq ms0 l (j + 1) ms hl' (fun i => by have := hm (i + 1); simpa [Nat.add_assoc, Nat.add_comm 1 i] using this)]
      rfl

/-- THE LAW: a region that draws its order, walked once. -/
theorem wp_region_txt {id : Nat} {l : List Oper} {a : Act} {w : World} (ms : List Nat) (S : World → Prop) (hm : P.follows .mixedOrders = true) (h : okB l.toArray ms (Region.before l.toArray) = true) (hS : S w.drew)
    (ht : txt P l.toArray Q S (withMarks ms l) a w.drew) : (Code.region id l.toArray true).wp P Q a w := by
  refine Code.wp_mono QN.imp (wp_region_any hm ?_)
  have e0 : rem l.toArray.size (Array.replicate l.toArray.size false) = List.range l.toArray.size := by
    unfold rem
    refine List.filter_eq_self.2 fun i hi => ?_
    have := List.mem_range.1 hi
    simp at this
    simp [this]
  refine wpAny_of_txt (S := S) h _ _ a _ (by simp) (fun j o hj hl => ?_) (by rw [e0]; simp) hS ?_
  · exfalso
    rw [getD_replicate_false] at hl
    cases hl
  · rw [e0, List.range_eq_range']
    have := txtI_of_txt (P := P) (ops := l.toArray) (Q := Q) (S := S) (ms := ms) l 0 (by simp) a w.drew
    rw [withMarks_eq (ops := l.toArray) ms l 0 ms (by simp) (by simp)] at ht
    simpa using this ht
theorem txt_y {o : Oper} {rest : List (Nat × Oper)} {a : Act} {w : World} {v : Value} (hy : YieldsIf P ops S o v a) (h : txt P ops Q S rest (a.put o.dst v) w) : txt P ops Q S ((0, o) :: rest) a w := ⟨v, hy, h⟩
structure Yl (P : Program) (ops : Array Oper) (S : World → Prop) (o : Oper) (a : Act) (v : Value) : Prop where
  want : Region.wanted o (yielded ops a.tmps) = true
  run : ∀ w, S w → (execOp a.eval o).run P w = .ok (.value v) w
theorem txt_v {o : Oper} {rest : List (Nat × Oper)} {a : Act} {w : World} {v : Value} (hy : Yl P ops S o a v) (h : txt P ops Q S rest (a.put o.dst v) w) : txt P ops Q S ((0, o) :: rest) a w := ⟨v, .inl ⟨hy.want, hy.run⟩, h⟩
structure Reads (P : Program) (ops : Array Oper) (o : Oper) (a : Act) (w : World) (v : Value) : Prop where
  want : Region.wanted o (yielded ops a.tmps) = true
  run : (execOp a.eval o).run P w = .ok (.value v) w
theorem txt_u {o : Oper} {rest : List (Nat × Oper)} {a : Act} {w : World} (hw : Region.wanted o (yielded ops a.tmps) = false) (h : txt P ops Q S rest (a.put o.dst undef) w) : txt P ops Q S ((0, o) :: rest) a w := ⟨undef, .inr ⟨hw, rfl⟩, h⟩
theorem txt_l {o : Oper} {rest : List (Nat × Oper)} {a : Act} {w : World} {v : Value} (hy : Reads P ops o a w v)
    (h : txt P ops Q S rest (a.put o.dst v) w) : txt P ops Q S ((1, o) :: rest) a w := ⟨hy.want, v, hy.run, h⟩
theorem txt_e {o : Oper} {rest : List (Nat × Oper)} {a : Act} {w : World} (hw : Region.wanted o (yielded ops a.tmps) = true)
    (h : ∀ K : Act → World → Prop, (∀ a' w', S w' → txt P ops Q S rest a' w' → K a' w') → o.wp P a w K (QN Q)) : txt P ops Q S ((2, o) :: rest) a w :=
  ⟨hw, h _ fun _ _ h1 h2 => ⟨h1, h2⟩⟩
theorem txt_nil {a : Act} {w : World} (h : Q .normal a w) : txt P ops Q S [] a w := h

end
end Go.Proofs.YtnfjmngchapdnaaGreatDoor
