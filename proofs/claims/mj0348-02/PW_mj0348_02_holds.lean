import PyProof.Rows.All
import Wide.All
import OpenK.AllK
import Wide.FinOn
import PySem.Challenge.RW_mj0348_02
open PySem PySem.W PyProof.Rows
set_option Elab.async false
set_option maxRecDepth 100000
set_option maxHeartbeats 30000000
namespace Mine02
/-! plain numbers -/
theorem add_xor_and : ∀ (n a b : Nat), a ≤ n → a + b = (a ^^^ b) + 2 * (a &&& b) := by
  intro n
  induction n with
  | zero => intro a b h; have : a = 0 := by omega
            subst this; simp
  | succ n ih =>
    intro a b h
    by_cases ha : a = 0
    · subst ha; simp
    · have e := ih (a / 2) (b / 2) (by omega)
      have x1 : (a ^^^ b) / 2 = a / 2 ^^^ b / 2 := Nat.xor_div_two
      have x2 : (a &&& b) / 2 = (a / 2) &&& (b / 2) := Nat.and_div_two
      have x3 : (a ^^^ b) % 2 = 1 ↔ ¬ (a % 2 = 1 ↔ b % 2 = 1) := Nat.xor_mod_two_eq_one
      have x4 : (a &&& b) % 2 = 1 ↔ a % 2 = 1 ∧ b % 2 = 1 := Nat.and_mod_two_eq_one
      rw [← x1, ← x2] at e
      have d1 := Nat.div_add_mod (a ^^^ b) 2
      have d2 := Nat.div_add_mod (a &&& b) 2
      omega
theorem bitXor_nat (a b : Nat) : Builtin.bitXor (a : Int) (b : Int) = ((a ^^^ b : Nat) : Int) := by
  rw [bitXor_and, bitAnd_pp (by omega) (by omega)]
  have := add_xor_and a a b (Nat.le_refl _)
  simp only [Int.toNat_natCast]
  omega
@[irreducible] def stepC (c : Int) : Int := if ¬ Builtin.bitAnd c 1 = 0 then Builtin.bitXor (c.fdiv (2 ^ Int.toNat 1)) 3988292384 else c.fdiv (2 ^ Int.toNat 1)
@[irreducible] def genC (c : Int) : Int := stepC (stepC (stepC (stepC (stepC (stepC (stepC (stepC c)))))))
theorem genC_fold (c : Int) : List.foldl (fun a' k' => if ¬ Builtin.bitAnd a' 1 = 0 then Builtin.bitXor (a'.fdiv (2 ^ Int.toNat 1)) 3988292384 else a'.fdiv (2 ^ Int.toNat 1)) c (rangeKs 0 ((8 - 0 : Int).toNat)) = genC c := by
  have e : (fun (a' : Int) (_ : Int) => if ¬ Builtin.bitAnd a' 1 = 0 then Builtin.bitXor (a'.fdiv (2 ^ Int.toNat 1)) 3988292384 else a'.fdiv (2 ^ Int.toNat 1)) = fun a' _ => stepC a' := by funext a' _; rw [stepC]
  rw [e, genC]; rfl
def addC (st : List Int) (o : Int) : List Int := st ++ [genC (Builtin.bitXor (st.getD (-1 + (st.length : Int)).toNat 0) o)]
@[irreducible] def runC (start : Int) (row : List Int) : List Int := row.foldl addC [start]
theorem runC_start (s : Int) : [s] = runC s [] ∧ ([s] : List Int).length = ([] : List Int).length + 1 := ⟨by unfold runC; rfl, rfl⟩
theorem runC_turn {s : Int} {pre st : List Int} {n : Int} (h1 : st = runC s pre) (h2 : st.length = pre.length + 1) :
    st ++ [genC (Builtin.bitXor (st.getD (-1 + (st.length : Int)).toNat 0) n)] = runC s (pre ++ [n]) ∧ (st ++ [genC (Builtin.bitXor (st.getD (-1 + (st.length : Int)).toNat 0) n)]).length = (pre ++ [n]).length + 1 := by
  constructor
  · have e := runC.eq_1 s (pre ++ [n]); rw [List.foldl_append, ← runC.eq_1 s pre, ← h1] at e; exact e.symm
  · simp [h2]
def dbl (c : Int) (t : List Int) : List Int := t ++ List.map (fun k' => Builtin.bitXor c k') t
@[irreducible] def T1 : List Int := dbl 1996959894 [0]
@[irreducible] def T2 : List Int := dbl 3993919788 T1
@[irreducible] def T3 : List Int := dbl 124634137 T2
@[irreducible] def T4 : List Int := dbl 249268274 T3
@[irreducible] def T5 : List Int := dbl 498536548 T4
@[irreducible] def T6 : List Int := dbl 997073096 T5
@[irreducible] def T7 : List Int := dbl 1994146192 T6
@[irreducible] def T8 : List Int := dbl 3988292384 T7
theorem T1_eq : [0] ++ List.map (fun k' => Builtin.bitXor 1996959894 k') [0] = T1 := by unfold T1; rfl
theorem T2_eq : T1 ++ List.map (fun k' => Builtin.bitXor 3993919788 k') T1 = T2 := by unfold T2; rfl
theorem T3_eq : T2 ++ List.map (fun k' => Builtin.bitXor 124634137 k') T2 = T3 := by unfold T3; rfl
theorem T4_eq : T3 ++ List.map (fun k' => Builtin.bitXor 249268274 k') T3 = T4 := by unfold T4; rfl
theorem T5_eq : T4 ++ List.map (fun k' => Builtin.bitXor 498536548 k') T4 = T5 := by unfold T5; rfl
theorem T6_eq : T5 ++ List.map (fun k' => Builtin.bitXor 997073096 k') T5 = T6 := by unfold T6; rfl
theorem T7_eq : T6 ++ List.map (fun k' => Builtin.bitXor 1994146192 k') T6 = T7 := by unfold T7; rfl
theorem T8_eq : T7 ++ List.map (fun k' => Builtin.bitXor 3988292384 k') T7 = T8 := by unfold T8; rfl
theorem dbl_len (c : Int) (t : List Int) : (dbl c t).length = 2 * t.length := by unfold dbl; rw [List.length_append, List.length_map]; omega
theorem T1_len : T1.length = 2 := by unfold T1; rw [dbl_len]; rfl
theorem T2_len : T2.length = 4 := by unfold T2; rw [dbl_len, T1_len]
theorem T3_len : T3.length = 8 := by unfold T3; rw [dbl_len, T2_len]
theorem T4_len : T4.length = 16 := by unfold T4; rw [dbl_len, T3_len]
theorem T5_len : T5.length = 32 := by unfold T5; rw [dbl_len, T4_len]
theorem T6_len : T6.length = 64 := by unfold T6; rw [dbl_len, T5_len]
theorem T7_len : T7.length = 128 := by unfold T7; rw [dbl_len, T6_len]
theorem T8_len : T8.length = 256 := by unfold T8; rw [dbl_len, T7_len]
section
variable {α : Type} {M : Model} {A : Around} {E : Value → Shared → Prop} {s : Shared} {t : Sem α} {Q : α → Shared → Prop}
theorem clean2 {h₀ : Heap} {L a b : Addr} {vs : Array Value} {n : Nat} {ys : List Value} {r : List (Addr × Obj)} (N : News h₀ L s.heap ((a, W.listOf vs n) :: (b, LCg.lst ys) :: r))
    (k : News h₀ L s.heap ((a, W.listOf vs n) :: r) → wpAny M A t Q E s) : wpAny M A t Q E s :=
  k fun p hp => N p (by simp only [List.mem_cons] at hp ⊢; rcases hp with h | h <;> simp [h])
theorem clean24 {h₀ : Heap} {L a b d : Addr} {c : Addr × Obj} {vs vs' : Array Value} {n n' : Nat} {ys : List Value} {r : List (Addr × Obj)} (N : News h₀ L s.heap ((a, W.listOf vs n) :: (b, LCg.lst ys) :: c :: (d, W.listOf vs' n') :: r))
    (k : News h₀ L s.heap ((a, W.listOf vs n) :: c :: r) → wpAny M A t Q E s) : wpAny M A t Q E s :=
  k fun p hp => N p (by simp only [List.mem_cons] at hp ⊢; rcases hp with h | h | h <;> simp [h])
end
def pickC (order : List Int) (x : Int) : Int := order.getD ((x.fdiv (2 ^ Int.toNat 24)).fmod 256).toNat 0
def ordStep (table order : List Int) (p : Int) : List Int := order.set (((table.getD p.toNat 0).fdiv (2 ^ Int.toNat 24)).fmod 256).toNat p
@[irreducible] def ordOf (table : List Int) (ps : List Int) : List Int := ps.foldl (ordStep table) (List.replicate 256 0)
theorem ordOf_len (table ps : List Int) : (ordOf table ps).length = 256 := by
  unfold ordOf
  suffices h : ∀ (o : List Int), o.length = 256 → (ps.foldl (ordStep table) o).length = 256 from h _ (by rw [List.length_replicate])
  induction ps with
  | nil => intro o h; exact h
  | cons p r ih => intro o h; exact ih _ (by unfold ordStep; rw [List.length_set]; exact h)
@[irreducible] def zeros : List Int := List.replicate 256 0
theorem zeros_eq : zeros = List.replicate 256 0 := by unfold zeros; rfl
theorem zeros_len : zeros.length = 256 := by rw [zeros_eq, List.length_replicate]
theorem ord_start (table : List Int) : zeros = ordOf table [] ∧ zeros.length = 256 := ⟨by unfold ordOf; exact zeros_eq, zeros_len⟩
theorem ord_turn {table pre order : List Int} {n : Int} (h1 : order = ordOf table pre) (h2 : order.length = 256) :
    order.set (((table.getD n.toNat 0).fdiv (2 ^ Int.toNat 24)).fmod 256).toNat n = ordOf table (pre ++ [n]) ∧ (order.set (((table.getD n.toNat 0).fdiv (2 ^ Int.toNat 24)).fmod 256).toNat n).length = 256 := by
  refine ⟨?_, by rw [List.length_set]; exact h2⟩
  have e := ordOf.eq_1 table (pre ++ [n]); rw [List.foldl_append, ← ordOf.eq_1 table pre, ← h1] at e; exact e.symm
@[irreducible] def InR (o : List Int) : Prop := ∀ i : Nat, 0 ≤ o.getD i 0 ∧ o.getD i 0 < 256
theorem ord_in {o : List Int} {table : List Int} (h : o = ordOf table (rangeKs 0 256)) : InR o := by
  subst h
  unfold InR
  have key : ∀ (ps o : List Int), (∀ p ∈ ps, 0 ≤ p ∧ p < 256) → (∀ v ∈ o, 0 ≤ v ∧ v < 256) → ∀ v ∈ ps.foldl (ordStep table) o, 0 ≤ v ∧ v < 256 := by
    intro ps
    induction ps with
    | nil => intro o _ h2; exact h2
    | cons p r ih =>
      intro o h1 h2
      refine ih _ (fun q hq => h1 q (.tail _ hq)) fun v hv => ?_
      unfold ordStep at hv
      rcases List.mem_or_eq_of_mem_set hv with hv | hv
      · exact h2 v hv
      · rw [hv]; exact h1 p (.head _)
  have all : ∀ v ∈ ordOf table (rangeKs 0 256), 0 ≤ v ∧ v < 256 := by
    unfold ordOf
    refine key _ _ (fun p hp => ?_) (fun v hv => ?_)
    · simp only [rangeKs, List.mem_map, List.mem_range] at hp
      obtain ⟨k, hk, rfl⟩ := hp
      omega
    · rw [List.eq_of_mem_replicate hv]; decide
  intro i
  rw [List.getD_eq_getElem?_getD]
  cases e : (ordOf table (rangeKs 0 256))[i]? with
  | none => decide
  | some v => exact all v (List.mem_of_getElem? e)
theorem ord_lo {o : List Int} (h : InR o) (i : Nat) : 0 ≤ o.getD i 0 := by unfold InR at h; exact (h i).1
theorem ord_hi {o : List Int} (h : InR o) (i : Nat) : o.getD i 0 < ((T8.length : Nat) : Int) := by unfold InR at h; rw [T8_len]; exact (h i).2
theorem ord_fit {o : List Int} (h : InR o) (i : Nat) : o.getD i 0 < 2 ^ 63 := by unfold InR at h; exact Int.lt_trans (h i).2 (by decide)
def backStep (table order : List Int) (st : List Int) (o : Int) : List Int :=
  st ++ [Builtin.bitXor (Builtin.bitXor (st.getD (-1 + (st.length : Int)).toNat 0) (table.getD (pickC order (st.getD (-1 + (st.length : Int)).toNat 0)).toNat 0) * 256 + pickC order (st.getD (-1 + (st.length : Int)).toNat 0)) o]
@[irreducible] def backC (table order : List Int) (e : Int) (row : List Int) : List Int := row.foldl (backStep table order) [e]
theorem back_start (table order : List Int) (s : Int) : [s] = backC table order s [] ∧ ([s] : List Int).length = ([] : List Int).length + 1 := ⟨by unfold backC; rfl, rfl⟩
theorem back_turn {table order : List Int} {e : Int} {pre st : List Int} {n : Int} (h1 : st = backC table order e pre) (h2 : st.length = pre.length + 1) :
    st ++ [Builtin.bitXor (Builtin.bitXor (st.getD (-1 + (st.length : Int)).toNat 0) (table.getD (order.getD (((st.getD (-1 + (st.length : Int)).toNat 0).fdiv (2 ^ Int.toNat 24)).fmod 256).toNat 0).toNat 0) * 256 + order.getD (((st.getD (-1 + (st.length : Int)).toNat 0).fdiv (2 ^ Int.toNat 24)).fmod 256).toNat 0) n] = backC table order e (pre ++ [n]) ∧ (st ++ [Builtin.bitXor (Builtin.bitXor (st.getD (-1 + (st.length : Int)).toNat 0) (table.getD (order.getD (((st.getD (-1 + (st.length : Int)).toNat 0).fdiv (2 ^ Int.toNat 24)).fmod 256).toNat 0).toNat 0) * 256 + order.getD (((st.getD (-1 + (st.length : Int)).toNat 0).fdiv (2 ^ Int.toNat 24)).fmod 256).toNat 0) n]).length = (pre ++ [n]).length + 1 := by
  constructor
  · have q := backC.eq_1 table order e (pre ++ [n]); rw [List.foldl_append, ← backC.eq_1 table order e pre, ← h1] at q; exact q.symm
  · simp [h2]
theorem ints_rep {t : Tok} : ∀ n : Nat, IntsAre (List.replicate n (Value.int 0 t)) (List.replicate n 0)
  | 0 => .nil
  | n + 1 => .cons 0 t (ints_rep n)
theorem mul_zero256 {prog : Program} {w : World} {A : Around} {E : Value → Shared → Prop} {s : Shared} {h₀ : Heap} {L : Addr} {m : Str → Option Value} {news : List (Addr × Obj)} {l : Addr} {t u : Tok} {Q : Value → Shared → Prop}
    (Fm : Fr h₀ L s.heap m) (N : News h₀ L s.heap news) (hl : s.heap.IsList l #[Value.int 0 t])
    (h : ∀ D h' ws, Fr h₀ L h' m → News h₀ L h' ((D, W.listOf (List.toArray ws) 0) :: news) → IntsAre ws zeros → zeros.length = 256 → (∀ p ∈ news, p.1 < D) → Q (.ref D) { s with heap := h' }) : wpAny (model prog w) A (binaryOp .Mult (.ref l) (.int 256 u)) Q E s := by
  refine KMa.mul (vs := [Value.int 0 t]) (ws := List.replicate 256 (Value.int 0 t)) Fm N hl (by decide) (by decide) (by show 1 * 256 ≤ 256; decide) ?_ (fun D h' F' N' l1 => h D h' _ F' N' (by rw [zeros_eq]; exact ints_rep 256) zeros_len l1)
  rfl

def stepN (c : Nat) : Nat := if c % 2 = 1 then (c / 2) ^^^ 3988292384 else c / 2
def genN (c : Nat) : Nat := stepN (stepN (stepN (stepN (stepN (stepN (stepN (stepN c)))))))
theorem stepC_nat (c : Nat) : stepC (c : Int) = (stepN c : Int) := by
  unfold stepC stepN
  rw [bitAnd_m1]
  have e : (c : Int).fdiv (2 ^ Int.toNat 1) = ((c / 2 : Nat) : Int) := by
    rw [Int.fdiv_eq_ediv_of_nonneg _ (by decide)]; exact (Int.natCast_ediv c 2).symm
  rw [e]
  by_cases h : c % 2 = 1
  · rw [if_pos (by omega), if_pos h]; exact bitXor_nat _ 3988292384
  · rw [if_neg (by omega), if_neg h]
theorem genC_nat (c : Nat) : genC (c : Int) = (genN c : Int) := by
  unfold genC genN
  simp only [stepC_nat]
theorem stepN_xor (a b : Nat) : stepN (a ^^^ b) = stepN a ^^^ stepN b := by
  unfold stepN
  have x1 : (a ^^^ b) / 2 = a / 2 ^^^ b / 2 := Nat.xor_div_two
  have x3 : (a ^^^ b) % 2 = 1 ↔ ¬ (a % 2 = 1 ↔ b % 2 = 1) := Nat.xor_mod_two_eq_one
  rw [x1]
  by_cases p : a % 2 = 1 <;> by_cases q : b % 2 = 1
  · rw [if_neg (by rw [x3]; simp [p, q]), if_pos p, if_pos q]
    rw [Nat.xor_comm (b / 2) _, Nat.xor_assoc, ← Nat.xor_assoc 3988292384, Nat.xor_self, Nat.zero_xor]
  · rw [if_pos (by rw [x3]; simp [p, q]), if_pos p, if_neg q]
    rw [Nat.xor_assoc, Nat.xor_comm (b / 2), ← Nat.xor_assoc]
  · rw [if_pos (by rw [x3]; simp [p, q]), if_neg p, if_pos q, Nat.xor_assoc]
  · rw [if_neg (by rw [x3]; simp [p, q]), if_neg p, if_neg q]
theorem genN_xor (a b : Nat) : genN (a ^^^ b) = genN a ^^^ genN b := by
  unfold genN; simp only [stepN_xor]
theorem stepN_two (c : Nat) : stepN (2 * c) = c := by
  unfold stepN; rw [if_neg (by omega)]; omega
theorem genN_shift (c : Nat) : genN (256 * c) = c := by
  have e : 256 * c = 2 * (2 * (2 * (2 * (2 * (2 * (2 * (2 * c))))))) := by omega
  unfold genN; rw [e]; simp only [stepN_two]
theorem stepN_lt {c : Nat} (h : c < 2 ^ 32) : stepN c < 2 ^ 32 := by
  unfold stepN; split
  · exact Nat.xor_lt_two_pow (by omega) (by decide)
  · omega
theorem genN_lt {c : Nat} (h : c < 2 ^ 32) : genN c < 2 ^ 32 :=
  stepN_lt (stepN_lt (stepN_lt (stepN_lt (stepN_lt (stepN_lt (stepN_lt (stepN_lt h)))))))
theorem split256 (y : Nat) : y = (256 * (y / 256)) ^^^ (y % 256) := by
  have e := add_xor_and _ (256 * (y / 256)) (y % 256) (Nat.le_refl _)
  have z : (256 * (y / 256)) &&& (y % 256) = 0 := by
    apply Nat.eq_of_testBit_eq
    intro i
    rw [Nat.testBit_and, Nat.zero_testBit]
    by_cases h : i < 8
    · have : (256 * (y / 256)).testBit i = false := by
        rw [show 256 = 2 ^ 8 by decide, Nat.testBit_two_pow_mul]; simp; omega
      rw [this, Bool.false_and]
    · have : (y % 256).testBit i = false := Nat.testBit_lt_two_pow (Nat.lt_of_lt_of_le (Nat.mod_lt _ (by decide)) (Nat.pow_le_pow_right (n := 2) (i := 8) (by decide) (by omega)))
      rw [this, Bool.and_false]
  rw [z] at e
  have := Nat.div_add_mod y 256
  omega
theorem genN_split (y : Nat) : genN y = (y / 256) ^^^ genN (y % 256) := by
  conv => lhs; rw [split256 y]
  rw [genN_xor, genN_shift]
theorem top_split {y : Nat} (h : y < 2 ^ 32) : genN y / 2 ^ 24 = genN (y % 256) / 2 ^ 24 := by
  rw [genN_split y, Nat.xor_div_two_pow, Nat.div_eq_of_lt (by omega : y / 256 < 2 ^ 24), Nat.zero_xor]
/-- the tables, looked at once -/
@[irreducible] def ORD : List Int := ordOf T8 (rangeKs 0 256)
def tabB : Bool := (List.range 256).all fun b => T8.getD b 0 == (genN b : Int) && ORD.getD (genN b / 2 ^ 24) 0 == (b : Int)
theorem tabB_true : tabB = true := by
  unfold tabB ORD ordOf T8 T7 T6 T5 T4 T3 T2 T1
  decide +kernel
theorem tab_at {b : Nat} (h : b < 256) : T8.getD b 0 = (genN b : Int) ∧ ORD.getD (genN b / 2 ^ 24) 0 = (b : Int) := by
  have e := List.all_eq_true.mp tabB_true b (List.mem_range.mpr h)
  simpa using e
def bk (table order : List Int) (x o : Int) : Int := Builtin.bitXor (Builtin.bitXor x (table.getD (pickC order x).toNat 0) * 256 + pickC order x) o
def InB (s : Int) : Prop := 0 ≤ s ∧ s < 2 ^ 32
theorem back_one {s o : Int} (hs : InB s) (h0 : 0 ≤ o) (h1 : o < 256) : InB (genC (Builtin.bitXor s o)) ∧ bk T8 ORD (genC (Builtin.bitXor s o)) o = s := by
  obtain ⟨a, ha⟩ := Int.eq_ofNat_of_zero_le hs.1
  obtain ⟨b, hb⟩ := Int.eq_ofNat_of_zero_le h0
  have hs2 := hs.2
  subst ha hb
  have la : a < 2 ^ 32 := by omega
  have lb : b < 256 := by omega
  have ly : a ^^^ b < 2 ^ 32 := Nat.xor_lt_two_pow la (by omega)
  rw [bitXor_nat, genC_nat]
  have gl := genN_lt ly
  have lm : (a ^^^ b) % 256 < 256 := Nat.mod_lt _ (by decide)
  obtain ⟨t1, t2⟩ := tab_at lm
  have tp := top_split ly
  refine ⟨⟨by omega, by omega⟩, ?_⟩
  have pk : pickC ORD (genN (a ^^^ b) : Int) = (((a ^^^ b) % 256 : Nat) : Int) := by
    unfold pickC
    have e1 : ((genN (a ^^^ b) : Nat) : Int).fdiv (2 ^ Int.toNat 24) = ((genN (a ^^^ b) / 2 ^ 24 : Nat) : Int) := by
      rw [Int.fdiv_eq_ediv_of_nonneg _ (by decide)]; exact (Int.natCast_ediv _ _).symm
    have e2 : ((genN (a ^^^ b) / 2 ^ 24 : Nat) : Int).fmod 256 = ((genN (a ^^^ b) / 2 ^ 24 : Nat) : Int) := by
      rw [Int.fmod_eq_emod_of_nonneg _ (by decide)]; omega
    rw [e1, e2, Int.toNat_natCast, tp, t2]
  unfold bk
  rw [pk, Int.toNat_natCast, t1, bitXor_nat, genN_split (a ^^^ b), Nat.xor_assoc, Nat.xor_self, Nat.xor_zero]
  have e3 : ((((a ^^^ b) / 256 : Nat) : Int) * 256 + (((a ^^^ b) % 256 : Nat) : Int)) = ((a ^^^ b : Nat) : Int) := by omega
  rw [e3, bitXor_nat, Nat.xor_assoc, Nat.xor_self, Nat.xor_zero]
def run (s : Int) : List Int → List Int
  | [] => [s]
  | o :: l => s :: run (genC (Builtin.bitXor s o)) l
def fin (s : Int) (l : List Int) : Int := l.foldl (fun s o => genC (Builtin.bitXor s o)) s
def brun (table order : List Int) (x : Int) : List Int → List Int
  | [] => [x]
  | o :: l => x :: brun table order (bk table order x o) l
theorem lastD (xs : List Int) (c : Int) : (xs ++ [c]).getD (-1 + ((xs ++ [c]).length : Int)).toNat 0 = c := getD_last xs c 0
theorem runC_run (row : List Int) : ∀ (acc : List Int) (s : Int), row.foldl addC (acc ++ [s]) = acc ++ run s row := by
  induction row with
  | nil => intro acc s; rfl
  | cons o l ih =>
    intro acc s
    have e : addC (acc ++ [s]) o = (acc ++ [s]) ++ [genC (Builtin.bitXor s o)] := by unfold addC; rw [lastD]
    rw [List.foldl_cons, e, ih (acc ++ [s]) _]
    simp [run]
theorem backC_run (table order row : List Int) : ∀ (acc : List Int) (s : Int), row.foldl (backStep table order) (acc ++ [s]) = acc ++ brun table order s row := by
  induction row with
  | nil => intro acc s; rfl
  | cons o l ih =>
    intro acc s
    have e : backStep table order (acc ++ [s]) o = (acc ++ [s]) ++ [bk table order s o] := by unfold backStep bk; rw [lastD]
    rw [List.foldl_cons, e, ih (acc ++ [s]) _]
    simp [brun]
theorem run_snoc (l : List Int) (o : Int) : ∀ s, run s (l ++ [o]) = run s l ++ [genC (Builtin.bitXor (fin s l) o)] := by
  induction l with
  | nil => intro s; rfl
  | cons a l ih => intro s; simp [run, ih, fin]
theorem run_last (l : List Int) : ∀ s, ∃ pre, run s l = pre ++ [fin s l] := by
  induction l with
  | nil => intro s; exact ⟨[], rfl⟩
  | cons a l ih => intro s; obtain ⟨p, hp⟩ := ih (genC (Builtin.bitXor s a)); exact ⟨s :: p, by simp [run, hp, fin]⟩
theorem fin_in (l : List Int) : ∀ {s}, InB s → (∀ o ∈ l, 0 ≤ o ∧ o < 256) → InB (fin s l) := by
  induction l with
  | nil => intro s h _; exact h
  | cons a l ih =>
    intro s h hl
    have q := hl a (.head _)
    exact ih (back_one h q.1 q.2).1 fun o ho => hl o (.tail _ ho)
theorem brun_run {s : Int} (hs : InB s) : ∀ l : List Int, (∀ o ∈ l, 0 ≤ o ∧ o < 256) → brun T8 ORD (fin s l.reverse) l = (run s l.reverse).reverse := by
  intro l
  induction l with
  | nil => intro _; rfl
  | cons o l ih =>
    intro hl
    have q := hl o (.head _)
    have ih' := ih fun o ho => hl o (.tail _ ho)
    have hin : InB (fin s l.reverse) := fin_in _ hs fun o ho => hl o (.tail _ (List.mem_reverse.mp ho))
    have e : fin s (o :: l).reverse = genC (Builtin.bitXor (fin s l.reverse) o) := by simp [fin]
    rw [List.reverse_cons, run_snoc, List.reverse_append]
    rw [List.reverse_cons] at e
    rw [e]
    simp only [brun, List.reverse_cons, List.reverse_nil, List.nil_append, List.singleton_append]
    rw [(back_one hin q.1 q.2).2, ih']
theorem law_eq {s : Int} {row st : List Int} (h : st = runC s row) (hs : InB s) (hr : ∀ o ∈ row, 0 ≤ o ∧ o < 256) {order : List Int} (ho : order = ordOf T8 (rangeKs 0 256)) :
    backC T8 order (st.getD (-1 + (st.length : Int)).toNat 0) row.reverse = st.reverse := by
  have e1 : st = run s row := by rw [h, runC]; exact runC_run row [] s
  have e2 : order = ORD := by rw [ho, ORD]
  obtain ⟨p, hp⟩ := run_last row s
  have e3 : st.getD (-1 + (st.length : Int)).toNat 0 = fin s row := by rw [e1, hp, lastD]
  rw [e3, e2, e1, backC]
  have e4 := backC_run T8 ORD row.reverse [] (fin s row)
  rw [List.nil_append, List.nil_append] at e4
  rw [e4]
  have e5 := brun_run hs row.reverse fun o ho => hr o (List.mem_reverse.mp ho)
  rw [List.reverse_reverse] at e5
  exact e5
open_top hd for PySem.Challenge.rw_mj0348_02
section
theorem back_ints {a : List Value} {b o : List Int} {e : Int} {r : List Int} (h : IntsAre a b) (h1 : b = backC T8 o e r) (h2 : o = ordOf T8 (rangeKs 0 256)) : IntsAre a (backC T8 ORD e r) := by
  have e2 : o = ORD := by rw [h2, ORD]
  rw [h1, e2] at h; exact h
local macro_rules | `(tactic| walk_at "binaryOp Mult ref int") => `(tactic| (refine' mul_zero256 ?F ?N ?l ?_; (case F => k_asm); (case N => k_asm); (case l => is_list); k_whole; intro D' h' ws' F' N' hI' hL' l1; (try k_lt l1); (try k_sweep)))
local macro_rules | `(tactic| walk_at "subscriptTail Name Name ref int") => `(tactic| (((rename _ = ordOf _ _ => hq9); (have hin9 := ord_in hq9)); (with_unfolding_all refine' item_list_ints ?k1 ?k2 (ord_lo hin9 _) (ord_hi hin9 _) (ord_fit hin9 _) ?_; (case k1 => is_list); (case k2 => l_ints); k_whole); intro _))
local macro_rules | `(tactic| walk_at "pyIter ref") => `(tactic| (k_here; (with_reducible show wpAny _ _ (pyIter (Value.ref _)) (fun it s₂ => TurnsAt _ _ _ _ _ _ _ _ _ it s₂) _ _); ktu_seq))
local macro_rules | `(tactic| walk_at "execs cons Assign nil") => `(tactic| ((with_reducible refine wpAny_execs_cons ?_); (try dsimp only)))
local macro_rules | `(tactic| walk_at "call builtin:list.append") => `(tactic| ((with_reducible show wpAny _ _ (call _ ([_] ++ [_])) _ _ _); simp only [List.cons_append, List.nil_append]))
theorem back_call (w : World) (mean : ExcName → Option Value) (mg mb : Str → Option Value) (S : Addr) (o₂ : Obj) (D : Addr) (ws : List Value) (row : List Int) (nn : Nat) (e : Int) (te : Tok)
    (dp un : Nat) (gd : Option (List Code)) (cn : Str) (cs : Scope) (a : Addr) (ccd : Value) (cl : List (Str × Addr)) (outer : List Env) (A₀ : Around) (base h₀ : Heap) (L : Addr) (m : Str → Option Value) (s : Shared) (Q E : Value → Shared → Prop)
    (hi : IntsAre ws row) (hlen : row.length ≤ 64) (B : Below A₀ base outer h₀) (F : Fr h₀ L s.heap m) (X : (hd.heap_39 w.params).In h₀) (N : News h₀ L s.heap [(D, W.listOf ws.toArray nn), (S, o₂)])
    (T : Top hd.view_39 (looseW hd.view_39 []) mean mg mb h₀) (hk : cs.kind = .function) (hdp : dp + 1 < recursionLimit) (hun : un + 8 < cLine)
    (hret : ∀ D' ws' nn' h' tk', Fr h₀ L h' m → News h₀ L h' [(D', W.listOf (List.toArray ws') nn'), (S, o₂)] → IntsAre ws' (backC T8 ORD e row.reverse) → Q (.ref D') { s with heap := h', toks := tk' }) :
    wpAny (model Challenge.rw_mj0348_02.row.prog w) (ktrTop dp un gd cn cs L a ccd cl outer) (call (.ref 33) [.int e te, .ref D]) Q E s := by
  w_on
  revert X
  k_fill
  intro X
  (k_with "pyIter ref" => (k_of "place" => k_state_given ["table"] (fun table pre order => order = ordOf table pre ∧ order.length = 256) "order"))
  (k_with "pyIter ref" => (k_of "octet" => k_state_given ["end", "table", "order"] (fun e table order pre states => states = backC table order e pre ∧ states.length = pre.length + 1) "states"))
  (k_with "state" => first | exact ord_start _ | exact ord_turn (by assumption) (by assumption) | exact back_start _ _ _ | exact back_turn (by assumption) (by assumption))
  (k_with "storeName" => ((rename IntsAre _ (_ ++ List.map _ _) => h9); (first | (rw [T1_eq] at h9; have q9 := T1_len) | (rw [T2_eq] at h9; have q9 := T2_len) | (rw [T3_eq] at h9; have q9 := T3_len) | (rw [T4_eq] at h9; have q9 := T4_len) | (rw [T5_eq] at h9; have q9 := T5_len) | (rw [T6_eq] at h9; have q9 := T6_len) | (rw [T7_eq] at h9; have q9 := T7_len) | (rw [T8_eq] at h9; have q9 := T8_len)); (first | (refine clean24 (by assumption) ?_; intro N8) | (refine clean2 (by assumption) ?_; intro N8)); (repeat ((rename ((_ : Addr) ≠ _ ∧ _) => h8); clear h8)); (repeat ((rename (List.length _ = List.length (_ ++ List.map _ _)) => h7); clear h7))))
  refine wpAny_call ?_
  k_dflt (refine' code_defC ?k1 ?k2 ?k3 ?k4 ?k5 ?kA ?kF ?kK ?k6 ?k7 ?k8 ?k9 ?kB ?kD ?_ ?c2 ?c3 ?c4; (case kA => exact rfl); (case kF => exact rfl); (case kK => exact hk); (case k1 => k_asm); (case k2 => k_asm); (case k3 => k_asm); (case k4 => k_asm); (case k5 => k_asm); (case k6 => k_is); (case k7 => k_is); (case k8 => ktr_room); (case k9 => exact BindsTo.of_eq rfl); (case kB => exact rfl); (case kD => decide +kernel); (case c2 => exact rfl); (case c3 => exact rfl); (case c4 => exact rfl); k_whole; intro g' L' h' tk' cells' FG' F' N' Y' B' X' T' l1; (try k_lt l1); k_cells Y'; (try simp only [List.cons_append, List.nil_append] at N'); (try dsimp only); (try k_lift B'); (try k_fold))
  clear hdp hun hk
  k_steps
  refine' hret _ _ _ _ _ ?e1 ?e2 ?e3
  case e1 => k_asm
  case e2 => (refine' cb_drop ?cbN ?cbS; (case cbN => assumption); (case cbS => kcj_all))
  case e3 => (exact back_ints (by assumption) (by assumption) (by assumption))
end
section
theorem newsTwo {h₀ h : Heap} {L D S : Addr} {o₁ o₂ : Obj} {led : List (Addr × Obj)} (N : News h₀ L h led) (h1 : (D, o₁) ∈ led) (h2 : (S, o₂) ∈ led) : News h₀ L h [(D, o₁), (S, o₂)] := fun p hp => by
  rcases List.mem_cons.mp hp with rfl | hp
  · exact N _ h1
  · rcases List.mem_cons.mp hp with rfl | hp
    · exact N _ h2
    · cases hp
theorem law_end {x : Int} {xs st : List Int} (h : st = runC (x.fmod (2 ^ Int.toNat 32)) (List.map (fun k' : Int => k'.fmod 256) xs ++ [80, 75])) :
    backC T8 ORD (st.getD (-1 + (st.length : Int)).toNat 0) (List.map (fun k' : Int => k'.fmod 256) xs ++ [80, 75]).reverse = st.reverse := by
  refine law_eq (order := ORD) h ⟨?_, ?_⟩ (fun o ho => ?_) (by unfold ORD; rfl)
  · exact fmod_lo _ (by decide)
  · exact fmod_hi _ (by decide)
  · rcases List.mem_append.mp ho with ho | ho
    · obtain ⟨k, _, rfl⟩ := List.mem_map.mp ho
      exact ⟨fmod_lo _ (by decide), fmod_hi _ (by decide)⟩
    · simp only [List.mem_cons, List.not_mem_nil, or_false] at ho
      rcases ho with rfl | rfl <;> decide
theorem eq_ints_true {prog : Program} {w : World} {A : Around} {E : Value → Shared → Prop} {s : Shared} {a b : Addr} {vs us : List Value} {ns ms : List Int} {Q : Value → Shared → Prop} (hl : s.heap.IsList a vs.toArray) (hi : IntsAre vs ns) (hl' : s.heap.IsList b us.toArray) (hi' : IntsAre us ms) (hu : A.units + 64 < cLine)
    (e : ns = ms) (h : Q (.bool true) s) : wpAny (model prog w) A (compareOp .Eq (.ref a) (.ref b)) Q E s :=
  eq_intsK hl hi hl' hi' hu (by rw [decide_eq_true e]; exact h)
local macro_rules | `(tactic| walk_at "compareOp Eq ref ref") => `(tactic| (k_here; (with_reducible show wpAny _ _ (compareOp CmpOp.Eq (Value.ref _) (Value.ref _)) _ _ _); (with_unfolding_all refine' eq_ints_true ?k1 ?k2 ?k3 ?k4 ?k5 ?k6 ?_; (case k1 => is_list); (case k2 => l_intsC); (case k3 => is_list); (case k4 => l_intsC); (case k5 => units_room); (case k6 => exact law_end (by assumption)); k_whole)))
theorem walk_holds : PySem.Challenge.rw_mj0348_02.Holds := hd (by
  w_on
  (k_with "exec For Name Call cons nil" => kpr_for)
  (k_with "pyIter ref" => (k_of "j" => kpr_short))
  (k_with "pyIter ref" => (k_of "octet" => k_state_given ["start"] (fun start pre states => states = runC start pre ∧ states.length = pre.length + 1) "states"))
  (k_with "state" => first | exact runC_start _ | exact runC_turn (by assumption) (by assumption))
  (k_with "tree" => (exact genC_fold _))
  (k_with "call ref" => k_call_by "_gen_crc" genC)
  (k_with "call ref" => ((with_reducible show wpAny _ _ (call (Value.ref _) [Value.int _ _, Value.ref _]) _ _ _); k_dflt (refine' back_call _ _ _ _ _ _ _ _ _ _ _ _ _ _ _ _ _ _ _ _ _ _ _ _ _ _ _ _ _ ?hi ?hlen ?B ?F ?X ?N ?T ?hk ?hdp ?hun ?hret; (case N => exact newsTwo (by assumption) (by k_mem) (by k_mem)); (case B => k_asm); (case F => k_asm); (case X => k_asm); (case T => k_asm); (case hk => exact rfl); (case hi => assumption); (case hlen => (simp only [List.length_append, List.length_map, List.length_take, List.length_cons, List.length_nil]; omega)); (case hdp => ktr_room); (case hun => ktr_units); intro D' ws' nn' h' tk' F' N' hI'; (try k_sweep))))
  w_strict (k_go0; (all_goals try k_fold); k_steps; (all_goals (try k_data)); all_goals w_report)
)
end
end Mine02
theorem PySem.Challenge.cw_mj0348_02_holds : PySem.Challenge.rw_mj0348_02.Holds := by
  exact Mine02.walk_holds
