import PyProof.Rows.All
import Wide.All
import OpenK.AllK
import Wide.FinOn
import PySem.Challenge.RW_mj0348_03
set_option Elab.async false
set_option maxRecDepth 100000
set_option maxHeartbeats 30000000
namespace Mine03
/-! the field of 2^32 elements, words of 32 bits -/
def stepV (v : BitVec 32) : BitVec 32 := (v >>> 1) ^^^ (if v.getLsbD 0 then 3988292384#32 else 0#32)
def itV (F : BitVec 32 → BitVec 32) : Nat → BitVec 32 → BitVec 32
  | 0, v => v
  | n + 1, v => F (itV F n v)
def vsum (c : Nat → Bool) (f : Nat → BitVec 32) : Nat → BitVec 32
  | 0 => 0#32
  | n + 1 => vsum c f n ^^^ (if c n then f n else 0#32)
def eV : BitVec 32 := 2147483648#32
def mulV (a v : BitVec 32) : BitVec 32 := vsum (fun i => a.getLsbD (31 - i)) (fun i => itV stepV i v) 32
def Lin (F : BitVec 32 → BitVec 32) : Prop := ∀ a b, F (a ^^^ b) = F a ^^^ F b
theorem swap4 (a b c d : BitVec 32) : (a ^^^ b) ^^^ (c ^^^ d) = (a ^^^ c) ^^^ (b ^^^ d) := by ac_rfl
theorem stepV_lin : Lin stepV := by
  intro a b
  have e : (a ^^^ b) >>> 1 = (a >>> 1) ^^^ (b >>> 1) := BitVec.ushiftRight_xor_distrib a b 1
  unfold stepV
  rw [e, swap4 (a >>> 1), BitVec.getLsbD_xor]
  congr 1
  cases a.getLsbD 0 <;> cases b.getLsbD 0 <;> simp
theorem Lin.zero {F : BitVec 32 → BitVec 32} (h : Lin F) : F 0#32 = 0#32 := by
  have e := h 0#32 0#32
  rw [BitVec.xor_self] at e
  rw [BitVec.xor_self] at e
  exact e
theorem Lin.it {F : BitVec 32 → BitVec 32} (h : Lin F) (n : Nat) : Lin (itV F n) := by
  induction n with
  | zero => intro a b; rfl
  | succ n ih => intro a b; show F _ = F _ ^^^ F _; rw [ih, h]
theorem Lin.ite {F : BitVec 32 → BitVec 32} (h : Lin F) (c : Bool) (v : BitVec 32) : F (if c then v else 0#32) = if c then F v else 0#32 := by
  cases c
  · exact h.zero
  · rfl
theorem Lin.vsum {F : BitVec 32 → BitVec 32} (h : Lin F) (c : Nat → Bool) (f : Nat → BitVec 32) (n : Nat) : F (vsum c f n) = Mine03.vsum c (fun i => F (f i)) n := by
  induction n with
  | zero => exact h.zero
  | succ n ih => show F (_ ^^^ _) = _ ^^^ _; rw [h, ih, h.ite]
theorem vsum_congr {c d : Nat → Bool} {f g : Nat → BitVec 32} {n : Nat} (h : ∀ i, i < n → c i = d i ∧ f i = g i) : vsum c f n = vsum d g n := by
  induction n with
  | zero => rfl
  | succ n ih =>
    show _ ^^^ _ = _ ^^^ _
    rw [ih fun i hi => h i (by omega), (h n (by omega)).1, (h n (by omega)).2]
theorem vsum_xor_f (c : Nat → Bool) (f g : Nat → BitVec 32) (n : Nat) : vsum c (fun i => f i ^^^ g i) n = vsum c f n ^^^ vsum c g n := by
  induction n with
  | zero => exact (BitVec.xor_self).symm
  | succ n ih =>
    show _ ^^^ _ = (_ ^^^ _) ^^^ (_ ^^^ _)
    rw [swap4, ih]
    congr 1
    cases c n <;> simp
theorem vsum_xor_c (c d : Nat → Bool) (f : Nat → BitVec 32) (n : Nat) : vsum (fun i => c i ^^ d i) f n = vsum c f n ^^^ vsum d f n := by
  induction n with
  | zero => exact (BitVec.xor_self).symm
  | succ n ih =>
    show _ ^^^ _ = (_ ^^^ _) ^^^ (_ ^^^ _)
    rw [swap4, ih]
    congr 1
    have q : ∀ (x y : Bool) (z : BitVec 32), (if (x ^^ y) = true then z else 0#32) = (if x = true then z else 0#32) ^^^ (if y = true then z else 0#32) := by
      intro x y z; cases x <;> cases y <;> simp
    exact q _ _ _
def X64 : List (BitVec 32) := [2147483648#32, 1073741824#32, 536870912#32, 268435456#32, 134217728#32, 67108864#32, 33554432#32, 16777216#32, 8388608#32, 4194304#32, 2097152#32, 1048576#32, 524288#32, 262144#32, 131072#32, 65536#32, 32768#32, 16384#32, 8192#32, 4096#32, 2048#32, 1024#32, 512#32, 256#32, 128#32, 64#32, 32#32, 16#32, 8#32, 4#32, 2#32, 1#32, 3988292384#32, 1994146192#32, 997073096#32, 498536548#32, 249268274#32, 124634137#32, 3993919788#32, 1996959894#32, 998479947#32, 4034481925#32, 2508465314#32, 1254232657#32, 3369699848#32, 1684849924#32, 842424962#32, 421212481#32, 3778354048#32, 1889177024#32, 944588512#32, 472294256#32, 236147128#32, 118073564#32, 59036782#32, 29518391#32, 3982079547#32, 2601801789#32, 2687676222#32, 1343838111#32, 3316918511#32, 2405603159#32, 2852767883#32, 3099354981#32]
def W33 : List (BitVec 32) := [1073741824#32, 536870912#32, 134217728#32, 8388608#32, 32768#32, 3988292384#32, 2984685714#32, 2691310871#32, 3982654894#32, 2295415911#32, 3619421802#32, 3963911953#32, 2390663536#32, 1680310286#32, 1296546528#32, 167662735#32, 2206543119#32, 808857370#32, 2069535939#32, 838779241#32, 2683044394#32, 1821240772#32, 366380877#32, 1608415822#32, 3134787127#32, 776888047#32, 1319870996#32, 2829349568#32, 1117427358#32, 344797226#32, 3289097936#32, 3303156796#32, 1073741824#32]
def G32 : List (BitVec 32) := [1194781522#32, 72610379#32, 1146352203#32, 1211049823#32, 1683223115#32, 903985991#32, 1479485279#32, 1409873333#32, 1817440843#32, 179000700#32, 836877127#32, 1100206868#32, 1513039711#32, 37823162#32, 1426650549#32, 1382680215#32, 1825829451#32, 923300021#32, 183195004#32, 73507144#32, 834779975#32, 1181341525#32, 1099158292#32, 121936642#32, 1512515423#32, 1625971965#32, 38085306#32, 1953289808#32, 1426781621#32, 1782885853#32, 1382745751#32, 0#32]
theorem X64_step : ∀ i, i < 63 → stepV (X64.getD i 0#32) = X64.getD (i + 1) 0#32 := by decide +kernel
theorem X64_two : ∀ i, i < 32 → X64.getD i 0#32 = BitVec.twoPow 32 (31 - i) := by decide +kernel
theorem it_x (i : Nat) (h : i < 64) : itV stepV i eV = X64.getD i 0#32 := by
  induction i with
  | zero => decide +kernel
  | succ i ih => show stepV _ = _; rw [ih (by omega), X64_step i (by omega)]
theorem it_e (i : Nat) (h : i < 32) : itV stepV i eV = BitVec.twoPow 32 (31 - i) := by rw [it_x i (by omega), X64_two i h]
theorem vsum_bit (c : Nat → Bool) (n : Nat) (hn : n ≤ 32) (j : Nat) (hj : j < 32) : (vsum c (fun i => itV stepV i eV) n).getLsbD j = (decide (31 - j < n) && c (31 - j)) := by
  induction n with
  | zero => simp [vsum]
  | succ n ih =>
    show BitVec.getLsbD (vsum c (fun i => itV stepV i eV) n ^^^ (if c n then itV stepV n eV else 0#32)) j = _
    rw [BitVec.getLsbD_xor, ih (by omega), it_e n (by omega)]
    by_cases h : 31 - j = n
    · subst h
      have e : 31 - (31 - j) = j := by omega
      rw [e]
      cases c (31 - j) <;> simp [BitVec.getLsbD_twoPow, hj]
    · have h2 : (if c n = true then BitVec.twoPow 32 (31 - n) else 0#32).getLsbD j = false := by
        cases c n
        · simp
        · simp [BitVec.getLsbD_twoPow]; omega
      rw [h2, Bool.xor_false]
      congr 1
      apply decide_eq_decide.mpr
      omega
theorem mul_e (a : BitVec 32) : mulV a eV = a := by
  apply BitVec.eq_of_getLsbD_eq
  intro j hj
  unfold mulV
  rw [vsum_bit _ 32 (by omega) j hj]
  have e : 31 - (31 - j) = j := by omega
  simp [e]; omega
theorem vsum_ind {p : BitVec 32 → Prop} (h0 : p 0#32) (hx : ∀ a b, p a → p b → p (a ^^^ b)) (c : Nat → Bool) (f : Nat → BitVec 32) (hf : ∀ i, p (f i)) (n : Nat) : p (vsum c f n) := by
  induction n with
  | zero => exact h0
  | succ n ih =>
    refine hx _ _ ih ?_
    cases c n
    · exact h0
    · exact hf n
theorem genind {p : BitVec 32 → Prop} (he : p eV) (hA : ∀ v, p v → p (stepV v)) (hx : ∀ a b, p a → p b → p (a ^^^ b)) (a : BitVec 32) : p a := by
  rw [← mul_e a]
  refine vsum_ind ?_ hx _ _ (fun i => ?_) _
  · have := hx _ _ he he
    rwa [BitVec.xor_self] at this
  · induction i with
    | zero => exact he
    | succ i ih => exact hA _ ih
theorem mul_lin_l (v : BitVec 32) : Lin (fun a => mulV a v) := by
  intro a b
  show mulV _ _ = mulV _ _ ^^^ mulV _ _
  unfold mulV
  rw [← vsum_xor_c]
  exact vsum_congr fun i _ => ⟨BitVec.getLsbD_xor .., rfl⟩
theorem mul_lin_r (a : BitVec 32) : Lin (mulV a) := by
  intro u v
  unfold mulV
  rw [← vsum_xor_f]
  exact vsum_congr fun i _ => ⟨rfl, stepV_lin.it i u v⟩
theorem it_succ' (F : BitVec 32 → BitVec 32) (n : Nat) (v : BitVec 32) : itV F n (F v) = F (itV F n v) := by
  induction n with
  | zero => rfl
  | succ n ih => show F _ = F _; rw [ih]; rfl
theorem it_add (F : BitVec 32 → BitVec 32) (m n : Nat) (v : BitVec 32) : itV F (m + n) v = itV F m (itV F n v) := by
  induction m with
  | zero => rw [Nat.zero_add]; rfl
  | succ m ih => rw [Nat.succ_add]; show F _ = F _; rw [ih]
theorem mul_step_r (a v : BitVec 32) : mulV a (stepV v) = stepV (mulV a v) := by
  unfold mulV
  rw [stepV_lin.vsum]
  exact vsum_congr fun i _ => ⟨rfl, it_succ' _ _ _⟩
theorem mul_step_l (a v : BitVec 32) : mulV (stepV a) v = stepV (mulV a v) := by
  refine genind (p := fun v => mulV (stepV a) v = stepV (mulV a v)) ?_ (fun v h => ?_) (fun u v hu hv => ?_) v
  · rw [mul_e, mul_e]
  · rw [mul_step_r, mul_step_r, h]
  · rw [mul_lin_r, mul_lin_r, hu, hv, stepV_lin]
theorem e_mul (v : BitVec 32) : mulV eV v = v := by
  refine genind (p := fun v => mulV eV v = v) (mul_e _) (fun v h => ?_) (fun u v hu hv => ?_) v
  · rw [mul_step_r, h]
  · rw [mul_lin_r, hu, hv]
theorem mul_comm (a b : BitVec 32) : mulV a b = mulV b a := by
  refine genind (p := fun a => mulV a b = mulV b a) ?_ (fun v h => ?_) (fun u v hu hv => ?_) a
  · rw [mul_e, e_mul]
  · rw [mul_step_r, mul_step_l, h]
  · rw [mul_lin_r, ← hu, ← hv]; exact mul_lin_l b u v
theorem mul_assoc (a b c : BitVec 32) : mulV (mulV a b) c = mulV a (mulV b c) := by
  refine genind (p := fun a => mulV (mulV a b) c = mulV a (mulV b c)) ?_ (fun v h => ?_) (fun u v hu hv => ?_) a
  · rw [e_mul, e_mul]
  · rw [mul_step_l, mul_step_l, mul_step_l, h]
  · have e1 := mul_lin_l b u v
    have e2 := mul_lin_l c (mulV u b) (mulV v b)
    have e3 := mul_lin_l (mulV b c) u v
    simp only at e1 e2 e3
    rw [e1, e2, e3, hu, hv]
theorem mul_it_l (a v : BitVec 32) (n : Nat) : mulV (itV stepV n a) v = itV stepV n (mulV a v) := by
  induction n with
  | zero => rfl
  | succ n ih => show mulV (stepV _) v = stepV _; rw [mul_step_l, ih]
/-! squares -/
def frob (a : BitVec 32) : BitVec 32 := mulV a a
theorem frob_lin : Lin frob := by
  intro a b
  unfold frob
  have e := mul_lin_l (a ^^^ b) a b
  simp only at e
  rw [e, mul_lin_r, mul_lin_r, mul_comm b a]
  generalize mulV a a = x
  generalize mulV a b = y
  generalize mulV b b = z
  rw [BitVec.xor_assoc, ← BitVec.xor_assoc y, BitVec.xor_self, BitVec.zero_xor]
theorem mul_mid (a b c d : BitVec 32) : mulV (mulV a b) (mulV c d) = mulV (mulV a c) (mulV b d) := by
  rw [mul_assoc, mul_assoc, ← mul_assoc b, mul_comm b c, mul_assoc c]
theorem frob_mul (a b : BitVec 32) : frob (mulV a b) = mulV (frob a) (frob b) := mul_mid a b a b
theorem frobs_mul (n : Nat) (a b : BitVec 32) : itV frob n (mulV a b) = mulV (itV frob n a) (itV frob n b) := by
  induction n with
  | zero => rfl
  | succ n ih => show frob _ = mulV (frob _) (frob _); rw [ih, frob_mul]
theorem frob_e : frob eV = eV := mul_e _
theorem frobs_e (n : Nat) : itV frob n eV = eV := by
  induction n with
  | zero => rfl
  | succ n ih => show frob _ = _; rw [ih, frob_e]
theorem frob_step (v : BitVec 32) : frob (stepV v) = stepV (stepV (frob v)) := by
  unfold frob
  rw [mul_step_l, mul_step_r]
theorem frob_it (i : Nat) : frob (itV stepV i eV) = itV stepV (2 * i) eV := by
  induction i with
  | zero => exact frob_e
  | succ i ih => show frob (stepV _) = stepV (stepV (itV stepV (2 * i) eV)); rw [frob_step, ih]
def selT (t : List (BitVec 32)) (v : BitVec 32) : BitVec 32 := vsum (fun i => v.getLsbD (31 - i)) (fun i => t.getD i 0#32) 32
theorem selT_lin (t : List (BitVec 32)) : Lin (selT t) := by
  intro a b
  unfold selT
  rw [← vsum_xor_c]
  exact vsum_congr fun i _ => ⟨BitVec.getLsbD_xor .., rfl⟩
def frobT (v : BitVec 32) : BitVec 32 := vsum (fun i => v.getLsbD (31 - i)) (fun i => X64.getD (2 * i) 0#32) 32
theorem frob_eq (v : BitVec 32) : frob v = frobT v := by
  conv => lhs; rw [← mul_e v]
  unfold mulV
  rw [frob_lin.vsum]
  exact vsum_congr fun i hi => ⟨rfl, by rw [frob_it, it_x _ (by omega)]⟩
theorem W33_step : ∀ k, k < 32 → frobT (W33.getD k 0#32) = W33.getD (k + 1) 0#32 := by decide +kernel
theorem frobs_x (k : Nat) (h : k ≤ 32) : itV frob k (stepV eV) = W33.getD k 0#32 := by
  induction k with
  | zero => decide +kernel
  | succ k ih => show frob _ = _; rw [ih (by omega), frob_eq, W33_step k (by omega)]
theorem frob32_x : itV frob 32 (stepV eV) = stepV eV := by
  rw [frobs_x 32 (by omega)]
  decide +kernel
theorem frob32 (a : BitVec 32) : itV frob 32 a = a := by
  refine genind (p := fun a => itV frob 32 a = a) (frobs_e _) (fun v h => ?_) (fun u v hu hv => ?_) a
  · have e : stepV v = mulV (stepV eV) v := by rw [mul_step_l, e_mul]
    rw [e, frobs_mul, frob32_x, h]
  · rw [frob_lin.it, hu, hv]
def quo (a : BitVec 32) : Nat → BitVec 32
  | 0 => eV
  | n + 1 => mulV (quo a n) (itV frob (n + 1) a)
theorem quo_mul (a : BitVec 32) (n : Nat) : mulV (mulV a (quo a n)) a = itV frob (n + 1) a := by
  induction n with
  | zero => show mulV (mulV a eV) a = frob a; rw [mul_e]; rfl
  | succ n ih =>
    show mulV (mulV a (mulV (quo a n) (itV frob (n + 1) a))) a = frob (itV frob (n + 1) a)
    rw [← mul_assoc a, mul_assoc _ _ a, mul_comm _ a, ← mul_assoc, ih]
    rfl
theorem andx (x y m : BitVec 32) : (x ^^^ y) &&& m = (x &&& m) ^^^ (y &&& m) := by
  apply BitVec.eq_of_getLsbD_eq
  intro j _
  simp only [BitVec.getLsbD_and, BitVec.getLsbD_xor]
  cases x.getLsbD j <;> cases y.getLsbD j <;> cases m.getLsbD j <;> rfl
/-! who is its own square is 0 or 1 -/
theorem idem_at : ∀ i, i < 32 → (selT G32 (frobT (X64.getD i 0#32) ^^^ X64.getD i 0#32) ^^^ X64.getD i 0#32) &&& 2147483647#32 = 0#32 := by decide +kernel
theorem idem_all (z : BitVec 32) : (selT G32 (frob z ^^^ z) ^^^ z) &&& 2147483647#32 = 0#32 := by
  rw [← mul_e z]
  unfold mulV
  generalize (fun i => z.getLsbD (31 - i)) = c
  have key : ∀ n, n ≤ 32 → (selT G32 (frob (vsum c (fun i => itV stepV i eV) n) ^^^ vsum c (fun i => itV stepV i eV) n) ^^^ vsum c (fun i => itV stepV i eV) n) &&& 2147483647#32 = 0#32 := by
    intro n
    induction n with
    | zero =>
      intro _
      show (selT G32 (frob 0#32 ^^^ 0#32) ^^^ 0#32) &&& 2147483647#32 = 0#32
      rw [frob_lin.zero]; decide +kernel
    | succ n ih =>
      intro h
      have e : vsum c (fun i => itV stepV i eV) (n + 1) = vsum c (fun i => itV stepV i eV) n ^^^ (if c n then itV stepV n eV else 0#32) := rfl
      rw [e, frob_lin, swap4, selT_lin, swap4]
      have d : ∀ x y : BitVec 32, x &&& 2147483647#32 = 0#32 → y &&& 2147483647#32 = 0#32 → (x ^^^ y) &&& 2147483647#32 = 0#32 := by
        intro x y hx hy
        rw [andx, hx, hy, BitVec.xor_self]
      refine d _ _ (ih (by omega)) ?_
      cases c n
      · show (selT G32 (frob 0#32 ^^^ 0#32) ^^^ 0#32) &&& 2147483647#32 = 0#32
        rw [frob_lin.zero]; decide +kernel
      · show (selT G32 (frob (itV stepV n eV) ^^^ itV stepV n eV) ^^^ itV stepV n eV) &&& 2147483647#32 = 0#32
        rw [it_x n (by omega), frob_eq]
        exact idem_at n (by omega)
  exact key 32 (Nat.le_refl _)
theorem low_zero {z : BitVec 32} (h : z &&& 2147483647#32 = 0#32) : z = 0#32 ∨ z = eV := by
  have lo : ∀ j, j < 31 → z.getLsbD j = false := by
    intro j hj
    have e := congrArg (fun x => BitVec.getLsbD x j) h
    simp only [BitVec.getLsbD_and, BitVec.getLsbD_zero] at e
    have m : (2147483647#32).getLsbD j = true := by
      have : ∀ j, j < 31 → (2147483647#32).getLsbD j = true := by decide +kernel
      exact this j hj
    rw [m, Bool.and_true] at e
    exact e
  cases hz : z.getLsbD 31
  · left
    apply BitVec.eq_of_getLsbD_eq
    intro j hj
    rw [BitVec.getLsbD_zero]
    by_cases h31 : j = 31
    · rw [h31]; exact hz
    · exact lo j (by omega)
  · right
    apply BitVec.eq_of_getLsbD_eq
    intro j hj
    have e31 : ∀ j, j < 32 → eV.getLsbD j = decide (j = 31) := by decide +kernel
    rw [e31 j hj]
    by_cases h31 : j = 31
    · rw [h31, hz]; rfl
    · rw [lo j (by omega)]; exact (decide_eq_false h31).symm
theorem idem {z : BitVec 32} (h : frob z = z) : z = 0#32 ∨ z = eV := by
  have e := idem_all z
  rw [h, BitVec.xor_self, (selT_lin G32).zero, BitVec.zero_xor] at e
  exact low_zero e
theorem unit (a : BitVec 32) (h : a ≠ 0#32) : ∃ b, mulV a b = eV := by
  have hN : mulV (mulV a (quo a 31)) a = a := by rw [quo_mul, frob32]
  have hi : frob (mulV a (quo a 31)) = mulV a (quo a 31) := by
    show mulV (mulV a (quo a 31)) (mulV a (quo a 31)) = _
    rw [← mul_assoc (mulV a (quo a 31)) a, hN]
  rcases idem hi with h0 | h1
  · rw [h0] at hN
    rw [(mul_lin_l a).zero] at hN
    exact absurd hN.symm h
  · exact ⟨_, h1⟩
/-! sums of bits -/
def xsum (f : Nat → Bool) : Nat → Bool
  | 0 => false
  | n + 1 => xsum f n ^^ f n
theorem xsum_congr {f g : Nat → Bool} {n : Nat} (h : ∀ i, i < n → f i = g i) : xsum f n = xsum g n := by
  induction n with
  | zero => rfl
  | succ n ih => show (_ ^^ _) = (_ ^^ _); rw [ih fun i hi => h i (by omega), h n (by omega)]
theorem xsum_zero {f : Nat → Bool} {n : Nat} (h : ∀ i, i < n → f i = false) : xsum f n = false := by
  induction n with
  | zero => rfl
  | succ n ih => show (_ ^^ _) = _; rw [ih fun i hi => h i (by omega), h n (by omega)]; rfl
theorem xsum_xor (f g : Nat → Bool) (n : Nat) : xsum (fun i => f i ^^ g i) n = (xsum f n ^^ xsum g n) := by
  induction n with
  | zero => rfl
  | succ n ih =>
    show (_ ^^ (f n ^^ g n)) = ((_ ^^ _) ^^ (_ ^^ _))
    rw [ih]
    cases xsum f n <;> cases xsum g n <;> cases f n <;> cases g n <;> rfl
theorem xsum_and (c : Bool) (f : Nat → Bool) (n : Nat) : xsum (fun i => c && f i) n = (c && xsum f n) := by
  cases c
  · exact xsum_zero fun i _ => rfl
  · exact xsum_congr fun i _ => rfl
theorem xsum_swap (f : Nat → Nat → Bool) (m n : Nat) : xsum (fun i => xsum (f i) n) m = xsum (fun j => xsum (fun i => f i j) m) n := by
  induction m with
  | zero => exact (xsum_zero fun i _ => rfl).symm
  | succ m ih =>
    show (_ ^^ _) = _
    rw [ih, ← xsum_xor]
    rfl
theorem xsum_one {f : Nat → Bool} {n k : Nat} (hk : k < n) (h : ∀ i, i < n → i ≠ k → f i = false) : xsum f n = f k := by
  induction n with
  | zero => omega
  | succ n ih =>
    show (_ ^^ _) = _
    by_cases e : k = n
    · subst e
      rw [xsum_zero fun i hi => h i (by omega) (by omega)]
      exact Bool.false_xor _
    · rw [ih (by omega) fun i hi => h i (by omega), h n (by omega) (by omega), Bool.xor_false]
theorem xsum_ext {f : Nat → Bool} {n m : Nat} (hm : n ≤ m) (h : ∀ i, n ≤ i → i < m → f i = false) : xsum f m = xsum f n := by
  induction m with
  | zero => have : n = 0 := by omega
            subst this; rfl
  | succ m ih =>
    by_cases e : n = m + 1
    · rw [e]
    · show (_ ^^ _) = _
      rw [ih (by omega) fun i h1 h2 => h i h1 (by omega), h m (by omega) (by omega), Bool.xor_false]
theorem xsum_shift (f : Nat → Bool) (n : Nat) : xsum f (n + 1) = (f 0 ^^ xsum (fun i => f (i + 1)) n) := by
  induction n with
  | zero => show (false ^^ f 0) = (f 0 ^^ false); cases f 0 <;> rfl
  | succ n ih => show (xsum f (n + 1) ^^ f (n + 1)) = (f 0 ^^ (_ ^^ f (n + 1))); rw [ih, Bool.xor_assoc]
theorem xsum_rev (f : Nat → Bool) (n : Nat) : xsum f n = xsum (fun i => f (n - 1 - i)) n := by
  induction n with
  | zero => rfl
  | succ n ih =>
    rw [xsum_shift (fun i => f (n + 1 - 1 - i))]
    show (xsum f n ^^ f n) = (f n ^^ _)
    rw [ih, Bool.xor_comm]
    congr 1
    exact xsum_congr fun i hi => by congr 1; omega
/-! the bit that a mask looks at -/
def dotV (m v : BitVec 32) : Bool := xsum (fun i => m.getLsbD i && v.getLsbD i) 32
theorem dot_xor (m u v : BitVec 32) : dotV m (u ^^^ v) = (dotV m u ^^ dotV m v) := by
  unfold dotV
  rw [← xsum_xor]
  refine xsum_congr fun i _ => ?_
  rw [BitVec.getLsbD_xor]
  cases m.getLsbD i <;> simp
theorem dot_zero (m : BitVec 32) : dotV m 0#32 = false := xsum_zero fun i _ => by simp
theorem zero_dot (v : BitVec 32) : dotV 0#32 v = false := xsum_zero fun i _ => by simp
theorem dot_vsum (m : BitVec 32) (c : Nat → Bool) (f : Nat → BitVec 32) (n : Nat) : dotV m (vsum c f n) = xsum (fun i => c i && dotV m (f i)) n := by
  induction n with
  | zero => exact dot_zero m
  | succ n ih =>
    show dotV m (_ ^^^ _) = (_ ^^ (c n && dotV m (f n)))
    rw [dot_xor, ih]
    congr 1
    cases c n
    · exact dot_zero m
    · rfl
theorem dot_all {m : BitVec 32} (h : ∀ v, dotV m v = false) : m = 0#32 := by
  apply BitVec.eq_of_getLsbD_eq
  intro j hj
  have e := h (BitVec.twoPow 32 j)
  unfold dotV at e
  rw [xsum_one hj fun i hi hne => by simp [BitVec.getLsbD_twoPow]; omega] at e
  rw [BitVec.getLsbD_twoPow, decide_eq_true hj, decide_eq_true rfl, Bool.and_true, Bool.and_true] at e
  rw [e, BitVec.getLsbD_zero]
/-! the powers of x^(2^k) -/
def moveV (k : Nat) (v : BitVec 32) : BitVec 32 := itV stepV (2 ^ k) v
theorem it_mul (F : BitVec 32 → BitVec 32) (m n : Nat) (v : BitVec 32) : itV (itV F m) n v = itV F (m * n) v := by
  induction n with
  | zero => rfl
  | succ n ih => show itV F m _ = _; rw [ih, Nat.mul_succ, Nat.add_comm, it_add]
theorem moves (k n : Nat) (v : BitVec 32) : itV (moveV k) n v = itV stepV (2 ^ k * n) v := it_mul stepV (2 ^ k) n v
theorem mul_moves (k n : Nat) (a v : BitVec 32) : mulV (itV (moveV k) n a) v = itV (moveV k) n (mulV a v) := by
  rw [moves, moves, mul_it_l]
theorem frobs_it (k i : Nat) : itV frob k (itV stepV i eV) = itV (moveV k) i eV := by
  rw [moves]
  induction k with
  | zero => rw [Nat.pow_zero, Nat.one_mul]; rfl
  | succ k ih => show frob _ = _; rw [ih, frob_it, Nat.pow_succ, Nat.mul_comm (2 ^ k) 2, Nat.mul_assoc]
theorem frobs_vsum (k : Nat) (c : Nat → Bool) (n : Nat) : itV frob k (vsum c (fun i => itV stepV i eV) n) = vsum c (fun i => itV (moveV k) i eV) n := by
  rw [(frob_lin.it k).vsum]
  exact vsum_congr fun i _ => ⟨rfl, frobs_it k i⟩
theorem frobs_zero {k : Nat} (hk : k ≤ 32) {a : BitVec 32} (h : itV frob k a = 0#32) : a = 0#32 := by
  have e : itV frob ((32 - k) + k) a = a := by rw [Nat.sub_add_cancel hk]; exact frob32 a
  rw [it_add, h, (frob_lin.it _).zero] at e
  exact e.symm
theorem vsum_mul (k : Nat) (c : Nat → Bool) (r : BitVec 32) (n : Nat) : mulV (vsum c (fun i => itV (moveV k) i eV) n) r = vsum c (fun i => itV (moveV k) i r) n := by
  refine ((mul_lin_l r).vsum c (fun i => itV (moveV k) i eV) n).trans ?_
  exact vsum_congr fun i _ => ⟨rfl, by rw [mul_moves, e_mul]⟩
/-- the first 32 of them are free -/
theorem free {k : Nat} (hk : k ≤ 32) {r : BitVec 32} (hr : r ≠ 0#32) {c : Nat → Bool} (h : vsum c (fun i => itV (moveV k) i r) 32 = 0#32) : ∀ i, i < 32 → c i = false := by
  obtain ⟨b, hb⟩ := unit r hr
  rw [← vsum_mul] at h
  have e := mul_assoc (vsum c (fun i => itV (moveV k) i eV) 32) r b
  rw [h, hb, mul_e, (mul_lin_l b).zero, ← frobs_vsum] at e
  have z := frobs_zero hk e.symm
  intro i hi
  have q := vsum_bit c 32 (Nat.le_refl _) (31 - i) (by omega)
  rw [z, BitVec.getLsbD_zero, show 31 - (31 - i) = i by omega] at q
  simpa [hi] using q.symm
/-- and reach all -/
theorem reach {k : Nat} (hk : k ≤ 32) {v m : BitVec 32} (hv : v ≠ 0#32) (h : ∀ i, i < 32 → dotV m (itV (moveV k) i v) = false) : m = 0#32 := by
  obtain ⟨b, hb⟩ := unit v hv
  apply dot_all
  intro u
  have e1 : mulV (mulV u b) v = u := by rw [mul_assoc, mul_comm b v, hb, mul_e]
  have e2 : itV frob k (itV frob (32 - k) (mulV u b)) = mulV u b := by
    rw [← it_add, show k + (32 - k) = 32 by omega, frob32]
  rw [← mul_e (itV frob (32 - k) (mulV u b))] at e2
  unfold mulV at e2
  rw [frobs_vsum] at e2
  rw [← e1]
  unfold mulV
  unfold mulV at e1
  rw [← e2]
  have e3 := vsum_mul k (fun i => (itV frob (32 - k) (vsum (fun i => u.getLsbD (31 - i)) (fun i => itV stepV i b) 32)).getLsbD (31 - i)) v 32
  unfold mulV at e3
  rw [e3, dot_vsum]
  exact xsum_zero fun i hi => by rw [h i hi, Bool.and_false]
/-! Berlekamp and Massey -/
def par (n : Nat) : Bool := xsum n.testBit 70
structure BM where
  rule : Nat
  older : Nat
  length : Nat
  gap : Nat
  past : Nat
def bmStep (n : Nat) (b : Bool) (st : BM) : BM :=
  if par (st.rule &&& (2 * st.past + b.toNat)) = false then ⟨st.rule, st.older, st.length, st.gap + 1, 2 * st.past + b.toNat⟩
  else if n < 2 * st.length then ⟨st.rule ^^^ st.older <<< st.gap, st.older, st.length, st.gap + 1, 2 * st.past + b.toNat⟩
  else ⟨st.rule ^^^ st.older <<< st.gap, st.rule, n + 1 - st.length, 1, 2 * st.past + b.toNat⟩
def bmRun (s : Nat → Bool) : Nat → BM
  | 0 => ⟨1, 1, 0, 1, 0⟩
  | n + 1 => bmStep n (s n) (bmRun s n)
theorem bmStep_past (n : Nat) (b : Bool) (st : BM) : (bmStep n b st).past = 2 * st.past + b.toNat := by
  unfold bmStep
  split
  · rfl
  · split <;> rfl
theorem bit_double (p : Nat) (b : Bool) (i : Nat) : (2 * p + b.toNat).testBit i = if i = 0 then b else p.testBit (i - 1) := by
  cases i with
  | zero =>
    rw [Nat.testBit_zero, if_pos rfl]
    cases b <;> simp <;> omega
  | succ i =>
    rw [Nat.testBit_succ, if_neg (by omega)]
    have : (2 * p + b.toNat) / 2 = p := by cases b <;> simp <;> omega
    rw [this]; rfl
theorem past_bit (s : Nat → Bool) (n i : Nat) : (bmRun s n).past.testBit i = (decide (i < n) && s (n - 1 - i)) := by
  induction n generalizing i with
  | zero => show Nat.testBit 0 i = _; simp
  | succ n ih =>
    show (bmStep n (s n) (bmRun s n)).past.testBit i = _
    rw [bmStep_past, bit_double]
    by_cases h : i = 0
    · subst h; simp
    · rw [if_neg h, ih]
      have e1 : decide (i - 1 < n) = decide (i < n + 1) := decide_eq_decide.mpr (by omega)
      have e2 : n - 1 - (i - 1) = n + 1 - 1 - i := by omega
      rw [e1, e2]
theorem past_lt (s : Nat → Bool) (n : Nat) : (bmRun s n).past < 2 ^ n := by
  induction n with
  | zero => show 0 < 2 ^ 0; decide
  | succ n ih =>
    show (bmStep n (s n) (bmRun s n)).past < _
    rw [bmStep_past, Nat.pow_succ]
    have : (s n).toNat ≤ 1 := by cases s n <;> decide
    omega
/-- the coefficient at j of a rule times the row -/
def term (s : Nat → Bool) (i j : Nat) : Bool := decide (i ≤ j) && s (j - i)
def cf (s : Nat → Bool) (c j : Nat) : Bool := xsum (fun i => c.testBit i && term s i j) 70
theorem par_cf (s : Nat → Bool) (c n : Nat) : par (c &&& (2 * (bmRun s n).past + (s n).toNat)) = cf s c n := by
  unfold par cf
  refine xsum_congr fun i _ => ?_
  have e := past_bit s (n + 1) i
  rw [show (bmRun s (n + 1)).past = 2 * (bmRun s n).past + (s n).toNat from bmStep_past ..] at e
  rw [Nat.testBit_and, e, term, Nat.add_sub_cancel]
  congr 2
  exact decide_eq_decide.mpr (by omega)
theorem cf_xor (s : Nat → Bool) (a b j : Nat) : cf s (a ^^^ b) j = (cf s a j ^^ cf s b j) := by
  unfold cf
  rw [← xsum_xor]
  refine xsum_congr fun i _ => ?_
  rw [Nat.testBit_xor]
  cases a.testBit i <;> cases b.testBit i <;> cases term s i j <;> rfl
theorem cf_shift (s : Nat → Bool) {c : Nat} (j : Nat) (h : c < 2 ^ 69) : cf s (c <<< 1) (j + 1) = cf s c j := by
  unfold cf
  rw [xsum_shift _ 69]
  have h0 : (c <<< 1).testBit 0 = false := by simp
  rw [h0, Bool.false_and, Bool.false_xor]
  rw [show xsum (fun i => c.testBit i && term s i j) 70 = xsum (fun i => c.testBit i && term s i j) 69 from xsum_ext (by omega) fun i h1 h2 => by
    rw [Nat.testBit_lt_two_pow (Nat.lt_of_lt_of_le h (Nat.pow_le_pow_right (by decide) h1)), Bool.false_and]]
  refine xsum_congr fun i _ => ?_
  have e1 : (c <<< 1).testBit (i + 1) = c.testBit i := by simp
  have e2 : term s (i + 1) (j + 1) = term s i j := by
    unfold term
    rw [show j + 1 - (i + 1) = j - i by omega]
    congr 1
    exact decide_eq_decide.mpr (by omega)
  rw [e1, e2]
/-- sizes, whatever the row is -/
structure Siz (n : Nat) (st : BM) : Prop where
  rule : st.rule < 2 ^ (st.length + 1)
  len : st.length ≤ n
  gap : 1 ≤ st.gap ∧ st.gap ≤ n + 1
  old : st.older <<< st.gap < 2 ^ (n + 2 - st.length)
  past : st.past < 2 ^ n
theorem xor_lt {a b n m k : Nat} (ha : a < 2 ^ n) (hb : b < 2 ^ m) (h1 : n ≤ k) (h2 : m ≤ k) : a ^^^ b < 2 ^ k :=
  Nat.xor_lt_two_pow (Nat.lt_of_lt_of_le ha (Nat.pow_le_pow_right (by decide) h1)) (Nat.lt_of_lt_of_le hb (Nat.pow_le_pow_right (by decide) h2))
theorem shl_succ (a g : Nat) : a <<< (g + 1) = (a <<< g) <<< 1 := by rw [← Nat.shiftLeft_add]
theorem shl_lt {a n m : Nat} (h : a < 2 ^ n) (hm : n + 1 ≤ m) : a <<< 1 < 2 ^ m := by
  rw [Nat.shiftLeft_eq]
  refine Nat.lt_of_lt_of_le ?_ (Nat.pow_le_pow_right (by decide) hm)
  rw [Nat.pow_succ]; omega
theorem siz_step {n : Nat} {b : Bool} {st : BM} (h : Siz n st) : Siz (n + 1) (bmStep n b st) := by
  have hp : 2 * st.past + b.toNat < 2 ^ (n + 1) := by
    have := h.past
    have : b.toNat ≤ 1 := by cases b <;> decide
    rw [Nat.pow_succ]; omega
  have hl := h.len
  have hs : st.older <<< (st.gap + 1) < 2 ^ (n + 1 + 2 - st.length) := by
    rw [shl_succ]; exact shl_lt h.old (by omega)
  unfold bmStep
  split
  · exact ⟨h.rule, by show st.length ≤ n + 1; omega, ⟨by show 1 ≤ st.gap + 1; omega, by show st.gap + 1 ≤ n + 1 + 1; have := h.gap; omega⟩, hs, hp⟩
  · split
    · rename_i h2
      exact ⟨xor_lt h.rule h.old (Nat.le_refl _) (by show n + 2 - st.length ≤ st.length + 1; omega), by show st.length ≤ n + 1; omega, ⟨by show 1 ≤ st.gap + 1; omega, by show st.gap + 1 ≤ n + 1 + 1; have := h.gap; omega⟩, hs, hp⟩
    · rename_i h2
      refine ⟨?_, by show n + 1 - st.length ≤ n + 1; omega, ⟨Nat.le_refl _, by show 1 ≤ n + 1 + 1; omega⟩, ?_, hp⟩
      · show st.rule ^^^ st.older <<< st.gap < 2 ^ (n + 1 - st.length + 1)
        exact xor_lt h.rule h.old (by omega) (by omega)
      · show st.rule <<< 1 < 2 ^ (n + 1 + 2 - (n + 1 - st.length))
        exact shl_lt h.rule (by omega)
theorem siz_run (s : Nat → Bool) (n : Nat) : Siz n (bmRun s n) := by
  induction n with
  | zero =>
    show Siz 0 (⟨1, 1, 0, 1, 0⟩ : BM)
    exact ⟨by decide, by decide, by decide, by decide, by decide⟩
  | succ n ih => exact siz_step ih
/-- the rule that all of the row obeys -/
structure Obeys (s : Nat → Bool) (p : Nat) : Prop where
  zero : p.testBit 0 = true
  lt : p < 2 ^ 33
  all : ∀ j, 32 ≤ j → cf s p j = false
structure Inv (s : Nat → Bool) (n : Nat) (st : BM) : Prop where
  siz : Siz n st
  one : st.rule.testBit 0 = true
  fits : ∀ j, st.length ≤ j → j < n → cf s st.rule j = false
  old : ∀ j, n + 1 - st.length ≤ j → j ≤ n → cf s (st.older <<< st.gap) j = decide (j = n)
  most : st.length ≤ 32
theorem hi_bit {a n i : Nat} (h : a < 2 ^ n) (hi : n ≤ i) : a.testBit i = false :=
  Nat.testBit_lt_two_pow (Nat.lt_of_lt_of_le h (Nat.pow_le_pow_right (by decide) hi))
theorem len_most {s : Nat → Bool} {p : Nat} (O : Obeys s p) {n : Nat} {st : BM} (I : Inv s n st) (hd : cf s st.rule n = true) : n + 1 - st.length ≤ 32 := by
  refine Decidable.byContradiction fun hc => ?_
  have hm := I.most
  have q := xsum_swap (fun i k => p.testBit i && (st.rule.testBit k && term s (i + k) n)) 70 70
  have t1 : ∀ i k, i ≤ n → term s (i + k) n = term s k (n - i) := by
    intro i k h
    unfold term
    rw [show n - (i + k) = n - i - k by omega]
    congr 1
    exact decide_eq_decide.mpr (by omega)
  have l : xsum (fun i => xsum (fun k => p.testBit i && (st.rule.testBit k && term s (i + k) n)) 70) 70 = true := by
    rw [xsum_one (k := 0) (by omega)]
    · have : xsum (fun k => p.testBit 0 && (st.rule.testBit k && term s (0 + k) n)) 70 = (p.testBit 0 && cf s st.rule n) := by
        rw [xsum_and]; simp only [Nat.zero_add]; rfl
      rw [this, O.zero, hd]; rfl
    · intro i _ hi
      rw [xsum_and]
      by_cases h : i < 33
      · have e : xsum (fun k => st.rule.testBit k && term s (i + k) n) 70 = cf s st.rule (n - i) :=
          xsum_congr fun k _ => by rw [t1 i k (by omega)]
        rw [e, I.fits (n - i) (by omega) (by omega), Bool.and_false]
      · rw [hi_bit O.lt (by omega), Bool.false_and]
  have r : xsum (fun k => xsum (fun i => p.testBit i && (st.rule.testBit k && term s (i + k) n)) 70) 70 = false := by
    refine xsum_zero fun k _ => ?_
    have e : xsum (fun i => p.testBit i && (st.rule.testBit k && term s (i + k) n)) 70 = xsum (fun i => st.rule.testBit k && (p.testBit i && term s (i + k) n)) 70 :=
      xsum_congr fun i _ => by cases p.testBit i <;> cases st.rule.testBit k <;> rfl
    rw [e, xsum_and]
    by_cases h : k ≤ st.length
    · have e2 : xsum (fun i => p.testBit i && term s (i + k) n) 70 = cf s p (n - k) :=
        xsum_congr fun i _ => by rw [Nat.add_comm i k, t1 k i (by omega)]
      rw [e2, O.all (n - k) (by omega), Bool.and_false]
    · rw [hi_bit I.siz.rule (by omega), Bool.false_and]
  rw [l, r] at q
  exact absurd q (by decide)
theorem inv_step {s : Nat → Bool} {p : Nat} (O : Obeys s p) {n : Nat} (hn : n < 64) (I : Inv s n (bmRun s n)) : Inv s (n + 1) (bmRun s (n + 1)) := by
  have S' : Siz (n + 1) (bmRun s (n + 1)) := siz_run s (n + 1)
  show Inv s (n + 1) (bmStep n (s n) (bmRun s n))
  have S'' : Siz (n + 1) (bmStep n (s n) (bmRun s n)) := S'
  revert S''
  have S := I.siz
  have hg := S.gap
  have hl := S.len
  have hm := I.most
  have hX : (bmRun s n).older <<< (bmRun s n).gap < 2 ^ 69 := Nat.lt_of_lt_of_le S.old (Nat.pow_le_pow_right (by decide) (by omega))
  have hC : (bmRun s n).rule < 2 ^ 69 := Nat.lt_of_lt_of_le S.rule (Nat.pow_le_pow_right (by decide) (by omega))
  have hX0 : ((bmRun s n).older <<< (bmRun s n).gap).testBit 0 = false := by
    rw [Nat.testBit_shiftLeft]; simp; omega
  unfold bmStep
  rw [par_cf]
  generalize hst : bmRun s n = st at *
  have one' : (st.rule ^^^ st.older <<< st.gap).testBit 0 = true := by rw [Nat.testBit_xor, I.one, hX0]; rfl
  have up : ∀ j, n + 1 + 1 - st.length ≤ j → j ≤ n + 1 → cf s (st.older <<< (st.gap + 1)) j = decide (j = n + 1) := by
    intro j h1 h2
    cases j with
    | zero => omega
    | succ j =>
      rw [shl_succ, cf_shift s j hX, I.old j (by omega) (by omega)]
      exact decide_eq_decide.mpr (by omega)
  split
  · rename_i hd
    intro S''
    refine ⟨S'', I.one, ?_, up, hm⟩
    intro j h1 h2
    by_cases h : j = n
    · subst h; exact hd
    · exact I.fits j h1 (by omega)
  · rename_i hd
    have hd : cf s st.rule n = true := by cases e : cf s st.rule n <;> simp_all
    split
    · rename_i h2
      intro S''
      refine ⟨S'', one', ?_, up, hm⟩
      intro j h1 h3
      have h1 : st.length ≤ j := h1
      show cf s (st.rule ^^^ st.older <<< st.gap) j = false
      rw [cf_xor, I.old j (by omega) (by omega)]
      by_cases h : j = n
      · subst h; rw [hd]; simp
      · rw [I.fits j h1 (by omega)]; simp [h]
    · rename_i h2
      intro S''
      refine ⟨S'', one', ?_, ?_, len_most O I hd⟩
      · intro j h1 h3
        have h1 : n + 1 - st.length ≤ j := h1
        show cf s (st.rule ^^^ st.older <<< st.gap) j = false
        rw [cf_xor, I.old j (by omega) (by omega)]
        by_cases h : j = n
        · subst h; rw [hd]; simp
        · rw [I.fits j (by omega) (by omega)]; simp [h]
      · intro j h1 h3
        have h1 : n + 1 + 1 - (n + 1 - st.length) ≤ j := h1
        show cf s (st.rule <<< 1) j = decide (j = n + 1)
        cases j with
        | zero => omega
        | succ j =>
          rw [cf_shift s j hC]
          by_cases h : j = n
          · subst h; rw [hd]; simp
          · rw [I.fits j (by omega) (by omega)]; simp [h]
theorem inv_run {s : Nat → Bool} {p : Nat} (O : Obeys s p) (n : Nat) (hn : n ≤ 64) : Inv s n (bmRun s n) := by
  induction n with
  | zero =>
    have S := siz_run s 0
    show Inv s 0 (⟨1, 1, 0, 1, 0⟩ : BM)
    exact ⟨S, by decide, fun j _ h => by omega, fun j h1 h2 => by have h1 : 0 + 1 - 0 ≤ j := h1; omega, by decide⟩
  | succ n ih => exact inv_step O (by omega) (ih (by omega))
theorem run_nought {s : Nat → Bool} (h : ∀ j, j < 64 → s j = false) (n : Nat) (hn : n ≤ 64) : (bmRun s n).rule = 1 ∧ (bmRun s n).length = 0 := by
  have key : ∀ n, n ≤ 64 → (bmRun s n).rule = 1 ∧ (bmRun s n).length = 0 ∧ (bmRun s n).past = 0 := by
    intro n
    induction n with
    | zero => intro _; exact ⟨rfl, rfl, rfl⟩
    | succ n ih =>
      intro hn
      obtain ⟨h1, h2, h3⟩ := ih (by omega)
      show (bmStep n (s n) (bmRun s n)).rule = 1 ∧ (bmStep n (s n) (bmRun s n)).length = 0 ∧ (bmStep n (s n) (bmRun s n)).past = 0
      have e : bmStep n (s n) (bmRun s n) = ⟨(bmRun s n).rule, (bmRun s n).older, (bmRun s n).length, (bmRun s n).gap + 1, 2 * (bmRun s n).past + (s n).toNat⟩ := by
        unfold bmStep
        rw [if_pos]
        rw [h1, h3, h n (by omega)]
        decide +kernel
      rw [e]
      exact ⟨h1, h2, by show 2 * (bmRun s n).past + (s n).toNat = 0; rw [h3, h n (by omega)]; rfl⟩
  exact ⟨(key n hn).1, (key n hn).2.1⟩
/-! the register's own row -/
def PN : Nat := 7976584769
def row (k : Nat) (m r : BitVec 32) (j : Nat) : Bool := dotV m (itV (moveV k) j r)
theorem moves_lin (k : Nat) : Lin (moveV k) := stepV_lin.it _
theorem cf_row (k : Nat) (m r : BitVec 32) {c : Nat} (hc : c < 2 ^ 33) {j : Nat} (hj : 32 ≤ j) :
    cf (row k m r) c j = dotV m (itV (moveV k) (j - 32) (vsum (fun t => c.testBit (32 - t)) (fun t => itV (moveV k) t r) 33)) := by
  rw [((moves_lin k).it (j - 32)).vsum, dot_vsum]
  unfold cf
  rw [xsum_ext (n := 33) (by omega) fun i h1 h2 => by rw [hi_bit hc h1, Bool.false_and]]
  rw [xsum_rev]
  refine xsum_congr fun t ht => ?_
  show (c.testBit (33 - 1 - t) && term (row k m r) (33 - 1 - t) j) = _
  rw [show 33 - 1 - t = 32 - t by omega]
  congr 1
  unfold term row
  rw [decide_eq_true (by omega), Bool.true_and, show j - (32 - t) = (j - 32) + t by omega, it_add]
theorem PN_sum : vsum (fun t => PN.testBit (32 - t)) (fun t => X64.getD t 0#32) 33 = 0#32 := by decide +kernel
theorem PN_kills (k : Nat) (r : BitVec 32) : vsum (fun t => PN.testBit (32 - t)) (fun t => itV (moveV k) t r) 33 = 0#32 := by
  rw [← vsum_mul, ← frobs_vsum]
  rw [show vsum (fun t => PN.testBit (32 - t)) (fun t => itV stepV t eV) 33 = 0#32 from Eq.trans (vsum_congr fun i hi => ⟨rfl, it_x i (by omega)⟩) PN_sum]
  rw [(frob_lin.it k).zero]
  exact (mul_lin_l r).zero
theorem it_zero (k n : Nat) : itV (moveV k) n 0#32 = 0#32 := ((moves_lin k).it n).zero
theorem row_obeys (k : Nat) (m r : BitVec 32) : Obeys (row k m r) PN :=
  ⟨by decide, by decide, fun j hj => by rw [cf_row k m r (by decide) hj, PN_kills, it_zero, dot_zero]⟩
theorem found {k : Nat} (hk : k ≤ 32) {m r : BitVec 32} (hm : m ≠ 0#32) (hr : r ≠ 0#32) : (bmRun (row k m r) 64).rule = PN ∧ (bmRun (row k m r) 64).length = 32 := by
  have I := inv_run (row_obeys k m r) 64 (Nat.le_refl _)
  generalize bmRun (row k m r) 64 = st at I
  have hm32 := I.most
  have hC : st.rule < 2 ^ 33 := Nat.lt_of_lt_of_le I.siz.rule (Nat.pow_le_pow_right (by decide) (by omega))
  have hD : st.rule ^^^ PN < 2 ^ 33 := Nat.xor_lt_two_pow hC (by decide)
  have hD0 : (st.rule ^^^ PN).testBit 0 = false := by rw [Nat.testBit_xor, I.one]; decide
  have z : ∀ j, 32 ≤ j → j < 64 → cf (row k m r) (st.rule ^^^ PN) j = false := by
    intro j h1 h2
    rw [cf_xor, I.fits j (by omega) h2, (row_obeys k m r).all j h1]; rfl
  have v0 : vsum (fun t => (st.rule ^^^ PN).testBit (32 - t)) (fun t => itV (moveV k) t r) 33 = 0#32 := by
    refine Decidable.byContradiction fun hne => hm (reach hk hne fun i hi => ?_)
    have e := z (i + 32) (by omega) (by omega)
    rw [cf_row k m r hD (by omega), Nat.add_sub_cancel] at e
    exact e
  have v1 : vsum (fun t => (st.rule ^^^ PN).testBit (32 - t)) (fun t => itV (moveV k) t r) 32 = 0#32 := by
    have e : vsum (fun t => (st.rule ^^^ PN).testBit (32 - t)) (fun t => itV (moveV k) t r) 33 = vsum (fun t => (st.rule ^^^ PN).testBit (32 - t)) (fun t => itV (moveV k) t r) 32 ^^^ (if (st.rule ^^^ PN).testBit (32 - 32) then itV (moveV k) 32 r else 0#32) := rfl
    rw [hD0, v0] at e
    simpa using e.symm
  have fr := free hk hr v1
  have e : st.rule = PN := by
    apply Nat.eq_of_testBit_eq
    intro i
    have b : (st.rule ^^^ PN).testBit i = false := by
      by_cases h0 : i = 0
      · rw [h0]; exact hD0
      · by_cases h1 : i < 33
        · have := fr (32 - i) (by omega)
          rw [show 32 - (32 - i) = i by omega] at this
          exact this
        · exact hi_bit hD (by omega)
    rw [Nat.testBit_xor] at b
    revert b
    cases st.rule.testBit i <;> cases PN.testBit i <;> simp
  refine ⟨e, ?_⟩
  have h1 := I.siz.rule
  rw [e] at h1
  refine Decidable.byContradiction fun hne => ?_
  have : PN < 2 ^ 32 := Nat.lt_of_lt_of_le h1 (Nat.pow_le_pow_right (by decide) (by omega))
  exact absurd this (by decide)
theorem nought {k : Nat} {m r : BitVec 32} (h : m = 0#32 ∨ r = 0#32) : (bmRun (row k m r) 64).rule = 1 ∧ (bmRun (row k m r) 64).length = 0 := by
  refine run_nought (fun j _ => ?_) 64 (Nat.le_refl _)
  unfold row
  rcases h with h | h
  · rw [h, zero_dot]
  · rw [h, it_zero, dot_zero]
end Mine03
open PySem PySem.W PyProof.Rows
namespace Mine03
theorem ints_pick {vs : List Value} {ns : List Int} (hi : IntsAre vs ns) : ∀ is : List Nat, IntsAre (is.filterMap (vs.toArray[·]?)) (is.filterMap (ns[·]?))
  | [] => .nil
  | i :: r => by
    have ih := ints_pick hi r
    cases e : ns[i]? with
    | none =>
      have h1 : vs.toArray[i]? = none := by
        have hl := hi.length
        have := List.getElem?_eq_none_iff.mp e
        simp; omega
      rw [List.filterMap_cons_none h1, List.filterMap_cons_none e]; exact ih
    | some n =>
      obtain ⟨t, ht⟩ := hi.get i n e
      have h1 : vs.toArray[i]? = some (.int n t) := by simpa using ht
      rw [List.filterMap_cons_some h1, List.filterMap_cons_some e]; exact .cons _ _ ih
theorem step_len (lo : Int) (ns : List Int) (vs : List Value) (hl : vs.length = ns.length) :
    ((sliceRange (sliceBounds (some lo) none (some 2) vs.toArray.size).1 (sliceBounds (some lo) none (some 2) vs.toArray.size).2.1 (sliceBounds (some lo) none (some 2) vs.toArray.size).2.2).filterMap (ns[·]?)).length ≤ ns.length := by
  refine Nat.le_trans (List.length_filterMap_le _ _) ?_
  refine sliceRange_length_le _ _ _ _ (fun _ => ?_) (fun h => absurd (by simp [sliceBounds]) h)
  simp [sliceBounds, hl]
  omega
section
variable {prog : Program} {w : World} {A : Around} {E : Value → Shared → Prop} {s : Shared} {h₀ : Heap} {L l : Addr} {m : Str → Option Value} {news : List (Addr × Obj)} {value slice : PySem.Expr} {vs : List Value} {ns : List Int} {vl vk : Value} {lo : Int} {ops : List Value} {Q : Value → Shared → Prop}
theorem slice_step (F : Fr h₀ L s.heap m) (N : News h₀ L s.heap news) (hl : s.heap.IsList l vs.toArray) (pl : IsPart vl (some lo)) (pk : IsPart vk (some 2)) (hi : IntsAre vs ns)
    (h : ∀ D ws ms h', Fr h₀ L h' m → News h₀ L h' ((D, W.listOf (List.toArray ws) 0) :: news) → (∀ p ∈ news, p.1 < D) → IntsAre ws ms → ms.length ≤ ns.length → Q (.ref D) { s with heap := h' })
    (hs : subscripted slice false (.ref l) (.ref s.heap.objs.size) = operate ops (getItem (.ref l) (.ref s.heap.objs.size))) (ht : ∀ r, letTemporaryGo value (.ref l) r = pure ()) (hz : vs.toArray.size ≤ sizeLine) :
    wpAny (model prog w) A (subscriptTail value slice (.ref l) (.ref s.heap.objs.size)) Q E { s with heap := s.heap.push { cls := .type "slice", data := .fields #[vl, .none, vk] } } := by
  refine slice_list3 F N hl pl .none pk (by decide) (fun h' F' N' => h _ _ _ h' F' N' (fun p hp => Nat.lt_succ_of_lt (Heap.lt_size (N p hp).1)) (ints_pick hi _) (step_len lo ns vs hi.length)) hs ht hz
end
/-! what the walk speaks of, at Int -/
@[irreducible] def stepC (c : Int) : Int := if ¬ Builtin.bitAnd c 1 = 0 then Builtin.bitXor (c.fdiv (2 ^ Int.toNat 1)) 3988292384 else c.fdiv (2 ^ Int.toNat 1)
@[irreducible] def genC (c : Int) : Int := stepC (stepC (stepC (stepC (stepC (stepC (stepC (stepC c)))))))
theorem genC_fold (c : Int) : List.foldl (fun a' k' => if ¬ Builtin.bitAnd a' 1 = 0 then Builtin.bitXor (a'.fdiv (2 ^ Int.toNat 1)) 3988292384 else a'.fdiv (2 ^ Int.toNat 1)) c (rangeKs 0 ((8 - 0 : Int).toNat)) = genC c := by
  have e : (fun (a' : Int) (_ : Int) => if ¬ Builtin.bitAnd a' 1 = 0 then Builtin.bitXor (a'.fdiv (2 ^ Int.toNat 1)) 3988292384 else a'.fdiv (2 ^ Int.toNat 1)) = fun a' _ => stepC a' := by funext a' _; rw [stepC]
  rw [e, genC]; rfl
@[irreducible] def oddC (n : Int) : Int := (Txt.count (baseText "0b" 2 n) (Str.ofString "1")).fmod 2
theorem oddC_is (n : Int) : (Txt.count (baseText "0b" 2 n) (Str.ofString "1")).fmod 2 = oddC n := by unfold oddC; rfl
@[irreducible] def moveC (k : Nat) (r : Int) : Int := Nat.repeat genC k r
theorem moveC_zero (r : Int) : r = moveC 0 r := by unfold moveC; rfl
theorem moveC_succ (k : Nat) (r : Int) : genC (moveC k r) = moveC (k + 1) r := by unfold moveC; rfl
section
variable {prog : Program} {w : World} {A : Around} {E : Value → Shared → Prop} {s : Shared}
theorem mod32 {a : Int} {t u : Tok} {Q : Value → Shared → Prop} (h : ∀ r : Int, 0 ≤ r → r < 4294967296 → Q (.int r s.toks) { s with toks := s.toks + 1 }) : wpAny (model prog w) A (binaryOp .Mod (.int a t) (.int (2 ^ Int.toNat 32) u)) Q E s := by
  have e : (2 ^ Int.toNat 32 : Int) = 4294967296 := by decide
  rw [e]
  exact mod_int' (by decide) (h _ (Int.fmod_nonneg_of_pos _ (by decide)) (Int.fmod_lt_of_pos _ (by decide)))
end
/-! Int and Nat -/
theorem add_xor_and : ∀ (n a b : Nat), a ≤ n → a + b = (a ^^^ b) + 2 * (a &&& b) := by
  intro n
  induction n with
  | zero => intro a b h; have : a = 0 := by omega
            subst this; simp
  | succ n ih =>
    intro a b h
    by_cases ha : a = 0
    · subst ha; simp
    · have e := ih (a / 2) (b / 2) (by omega)
      have x1 : (a ^^^ b) / 2 = a / 2 ^^^ b / 2 := Nat.xor_div_two
      have x2 : (a &&& b) / 2 = (a / 2) &&& (b / 2) := Nat.and_div_two
      have x3 : (a ^^^ b) % 2 = 1 ↔ ¬ (a % 2 = 1 ↔ b % 2 = 1) := Nat.xor_mod_two_eq_one
      have x4 : (a &&& b) % 2 = 1 ↔ a % 2 = 1 ∧ b % 2 = 1 := Nat.and_mod_two_eq_one
      rw [← x1, ← x2] at e
      have d1 := Nat.div_add_mod (a ^^^ b) 2
      have d2 := Nat.div_add_mod (a &&& b) 2
      omega
theorem bitAnd_nat (a b : Nat) : Builtin.bitAnd (a : Int) (b : Int) = ((a &&& b : Nat) : Int) := by
  rw [bitAnd_pp (by omega) (by omega)]; simp only [Int.toNat_natCast]
theorem bitXor_nat (a b : Nat) : Builtin.bitXor (a : Int) (b : Int) = ((a ^^^ b : Nat) : Int) := by
  rw [bitXor_and, bitAnd_nat]
  have := add_xor_and a a b (Nat.le_refl _)
  omega
theorem stepC_nat (c : Nat) : stepC (c : Int) = ((if c % 2 = 1 then (c / 2) ^^^ 3988292384 else c / 2 : Nat) : Int) := by
  unfold stepC
  rw [bitAnd_m1]
  have e : (c : Int).fdiv (2 ^ Int.toNat 1) = ((c / 2 : Nat) : Int) := by
    rw [Int.fdiv_eq_ediv_of_nonneg _ (by decide)]; exact (Int.natCast_ediv c 2).symm
  rw [e]
  by_cases h : c % 2 = 1
  · rw [if_pos (by omega), if_pos h]; exact bitXor_nat _ 3988292384
  · rw [if_neg (by omega), if_neg h]
theorem stepC_vec (v : BitVec 32) : stepC (v.toNat : Int) = ((stepV v).toNat : Int) := by
  rw [stepC_nat]
  congr 1
  unfold stepV
  have e : v.getLsbD 0 = decide (v.toNat % 2 = 1) := by
    show v.toNat.testBit 0 = _
    rw [Nat.testBit_zero]
  have e1 : v.toNat >>> 1 = v.toNat / 2 := rfl
  rw [BitVec.toNat_xor, BitVec.toNat_ushiftRight, e1, e]
  by_cases h : v.toNat % 2 = 1
  · rw [if_pos h, if_pos (decide_eq_true h)]; rfl
  · rw [if_neg h, if_neg (by simp [h])]; simp
theorem genC_vec (v : BitVec 32) : genC (v.toNat : Int) = ((itV stepV 8 v).toNat : Int) := by
  unfold genC
  simp only [stepC_vec]
  rfl
theorem moveC_vec (k : Nat) (v : BitVec 32) : moveC k (v.toNat : Int) = ((itV (itV stepV 8) k v).toNat : Int) := by
  induction k with
  | zero => rw [← moveC_zero]; rfl
  | succ k ih => rw [← moveC_succ, ih, genC_vec]; rfl
theorem moveC_row {q k : Nat} (h : 2 ^ k = 8 * q) (i : Nat) (v : BitVec 32) : moveC (q * i) (v.toNat : Int) = ((itV (moveV k) i v).toNat : Int) := by
  rw [moveC_vec, it_mul, moves, h, Nat.mul_assoc]
theorem stepC_pos {c : Int} (h : 0 ≤ c) : 0 ≤ stepC c := by
  obtain ⟨n, rfl⟩ := Int.eq_ofNat_of_zero_le h
  rw [stepC_nat]; omega
theorem genC_pos {c : Int} (h : 0 ≤ c) : 0 ≤ genC c := by
  unfold genC
  exact stepC_pos (stepC_pos (stepC_pos (stepC_pos (stepC_pos (stepC_pos (stepC_pos (stepC_pos h)))))))
theorem moveC_pos {c : Int} (k : Nat) (h : 0 ≤ c) : 0 ≤ moveC k c := by
  induction k with
  | zero => rw [← moveC_zero]; exact h
  | succ k ih => rw [← moveC_succ]; exact genC_pos ih
theorem moveC_add (a b : Nat) (c : Int) : moveC a (moveC b c) = moveC (a + b) c := by
  induction a with
  | zero => rw [← moveC_zero, Nat.zero_add]
  | succ a ih => rw [← moveC_succ, ih, moveC_succ, Nat.succ_add]
/-! the ones of a number's text -/
theorem par_rec {n : Nat} (h : n < 2 ^ 70) : par n = (decide (n % 2 = 1) ^^ par (n / 2)) := by
  unfold par
  rw [xsum_shift n.testBit 69, Nat.testBit_zero]
  congr 1
  have e : xsum (n / 2).testBit 70 = xsum (n / 2).testBit 69 := xsum_ext (by omega) fun i h1 h2 => Nat.testBit_lt_two_pow (Nat.lt_of_lt_of_le (m := 2 ^ 69) (by omega) (Nat.pow_le_pow_right (by decide) h1))
  rw [e]
  exact xsum_congr fun i _ => Nat.testBit_succ n i
theorem digit2 (d : Nat) (h : d < 2) : (Nat.digitChar d).toNat = 48 + d := by
  have : d = 0 ∨ d = 1 := by omega
  rcases this with rfl | rfl <;> rfl
theorem ones (n : Nat) (h : n < 2 ^ 70) : (cnt 49 ((Nat.toDigits 2 n).map Char.toNat)) % 2 = ((par n).toNat : Int) := by
  induction n using Nat.strongRecOn with
  | _ n ih =>
    have one : ∀ d, d < 2 → cnt 49 [(Nat.digitChar d).toNat] = (d : Int) := by
      intro d hd
      rw [cnt_cons, cnt_nil, digit2 d hd]
      have : d = 0 ∨ d = 1 := by omega
      rcases this with rfl | rfl <;> rfl
    by_cases hn : n < 2
    · rw [Nat.toDigits_of_lt_base hn]
      show cnt 49 [(Nat.digitChar n).toNat] % 2 = _
      rw [one n hn]
      have : n = 0 ∨ n = 1 := by omega
      rcases this with rfl | rfl <;> decide +kernel
    · rw [Nat.toDigits_of_base_le (by decide) (by omega), List.map_append, cnt_append]
      have i1 := ih (n / 2) (by omega) (by omega)
      have i2 := one (n % 2) (by omega)
      rw [show List.map Char.toNat [Nat.digitChar (n % 2)] = [(Nat.digitChar (n % 2)).toNat] from rfl, i2, par_rec h]
      revert i1
      generalize cnt 49 (List.map Char.toNat (Nat.toDigits 2 (n / 2))) = c
      intro i1
      have d : n % 2 = 0 ∨ n % 2 = 1 := by omega
      cases hp : par (n / 2) <;> rw [hp] at i1 <;> rcases d with d | d <;> rw [d] <;> simp at i1 ⊢ <;> omega
theorem oddC_nat {n : Nat} (h : n < 2 ^ 70) : oddC (n : Int) = ((par n).toNat : Int) := by
  unfold oddC
  rw [baseText_nonneg (by omega), show Str.ofString "1" = ⟨#[49]⟩ from by decide +kernel, count_cnt]
  rw [cps_toList_append, cps_toList_append, signs_ofString, signs_ofString, signs_ofString, cnt_append, cnt_append, Int.natAbs_natCast, show (String.ofList (Nat.toDigits 2 n)).toList = Nat.toDigits 2 n from String.toList_ofList]
  have e0 : cnt 49 (List.map Char.toNat "".toList) = 0 := by decide +kernel
  have e1 : cnt 49 (List.map Char.toNat "0b".toList) = 0 := by decide +kernel
  rw [e0, e1, Int.zero_add, Int.zero_add, Int.fmod_eq_emod_of_nonneg _ (by decide)]
  exact ones n h
theorem odd_dot (m x : BitVec 32) : oddC (Builtin.bitAnd (x.toNat : Int) (m.toNat : Int)) = ((dotV m x).toNat : Int) := by
  rw [bitAnd_nat]
  have hlt : x.toNat &&& m.toNat < 2 ^ 32 := Nat.and_lt_two_pow _ m.isLt
  rw [oddC_nat (by omega)]
  congr 2
  unfold par dotV
  rw [xsum_ext (n := 32) (by omega) fun i h1 h2 => hi_bit hlt h1]
  refine xsum_congr fun i _ => ?_
  rw [Nat.testBit_and, Bool.and_comm]; rfl
theorem move_start (r : Int) : r = moveC ([] : List Int).length r := moveC_zero r
theorem move_turn {r r' r₀ n : Int} {pre : List Int} (h' : r' = genC r) (h : r = moveC pre.length r₀) : r' = moveC (pre ++ [n]).length r₀ := by
  rw [h', h, moveC_succ, List.length_append]; rfl
/-! the row of bits -/
def bitsC (m : Int) (k : Nat) (r : Int) (n : Nat) : List Int := (List.range n).map fun i => oddC (Builtin.bitAnd (moveC (k * i) r) m)
@[irreducible] def TurnP (m S r₀ : Int) (n : Nat) (r : Int) (bits : List Int) : Prop :=
  r = moveC ((1 + S.fmod 2).toNat * n) r₀ ∧ bits = bitsC m (1 + S.fmod 2).toNat r₀ n
theorem turn_start (m S : Int) {r₀ : Int} (h : 0 ≤ r₀) : TurnP m S r₀ ([] : List Int).length r₀ [] ∧ 0 ≤ r₀ ∧ ([] : List Int).length = ([] : List Int).length := by
  refine ⟨?_, h, rfl⟩
  unfold TurnP
  exact ⟨by rw [List.length_nil, Nat.mul_zero, ← moveC_zero], rfl⟩
theorem turn_turn {m S r₀ r r' b n : Int} {pre bits ks : List Int} (h : TurnP m S r₀ pre.length r bits) (h0 : 0 ≤ r) (hl : bits.length = pre.length) (hb : b = oddC (Builtin.bitAnd r m)) (hr : r' = moveC ks.length r) (hks : ks = rangeKs 0 (1 + S.fmod 2 - 0).toNat) :
    TurnP m S r₀ (pre ++ [n]).length r' (bits ++ [b]) ∧ 0 ≤ r' ∧ (bits ++ [b]).length = (pre ++ [n]).length := by
  subst hb
  have hk : ks.length = (1 + S.fmod 2).toNat := by rw [hks, rangeKs, List.length_map, List.length_range, Int.sub_zero]
  refine ⟨?_, by rw [hr]; exact moveC_pos _ h0, by rw [List.length_append, List.length_append, hl]; rfl⟩
  unfold TurnP at h ⊢
  obtain ⟨h1, h2⟩ := h
  rw [List.length_append, List.length_singleton]
  constructor
  · rw [hr, h1, moveC_add, hk, Nat.mul_succ, Nat.add_comm]
  · unfold bitsC at h2 ⊢
    rw [List.range_succ, List.map_append, ← h2, h1]; rfl
def sOf (bits : List Int) (i : Nat) : Bool := decide (bits.getD i 0 = 1)
@[irreducible] def Bits01 (bits : List Int) : Prop := ∀ i : Nat, bits.getD i 0 = 0 ∨ bits.getD i 0 = 1
theorem bmRun_congr {s t : Nat → Bool} (n : Nat) (h : ∀ i, i < n → s i = t i) : bmRun s n = bmRun t n := by
  induction n with
  | zero => rfl
  | succ n ih => show bmStep n _ _ = bmStep n _ _; rw [ih fun i hi => h i (by omega), h n (by omega)]
theorem turn_bit {m r : BitVec 32} {S r' : Int} {n : Nat} {bits : List Int} (h : TurnP (m.toNat : Int) S (r.toNat : Int) n r' bits) :
    ∃ k, k ≤ 32 ∧ ∀ i, i < n → bits.getD i 0 = ((row k m r i).toNat : Int) := by
  unfold TurnP at h
  obtain ⟨_, h2⟩ := h
  have f0 : 0 ≤ S.fmod 2 := Int.fmod_nonneg_of_pos _ (by decide)
  have f1 : S.fmod 2 < 2 := Int.fmod_lt_of_pos _ (by decide)
  have key : ∀ q k, 2 ^ k = 8 * q → bits = bitsC (m.toNat : Int) q (r.toNat : Int) n → ∀ i, i < n → bits.getD i 0 = ((row k m r i).toNat : Int) := by
    intro q k e hb i hi
    have e2 : bits[i]? = some (oddC (Builtin.bitAnd (moveC (q * i) (r.toNat : Int)) (m.toNat : Int))) := by
      rw [hb, bitsC, List.getElem?_map, List.getElem?_range hi]; rfl
    rw [List.getD_eq_getElem?_getD, e2, Option.getD_some, moveC_row e, odd_dot]; rfl
  have d : S.fmod 2 = 0 ∨ S.fmod 2 = 1 := by omega
  rcases d with d | d <;> rw [d] at h2
  · exact ⟨3, by decide, key 1 3 rfl h2⟩
  · exact ⟨4, by decide, key 2 4 rfl h2⟩
theorem bool01 (b : Bool) : ((b.toNat : Nat) : Int) = 0 ∨ ((b.toNat : Nat) : Int) = 1 := by cases b <;> simp
theorem vec_of {m : Int} (h0 : 0 ≤ m) (h1 : m < 4294967296) : ∃ v : BitVec 32, m = (v.toNat : Int) :=
  ⟨BitVec.ofNat 32 m.toNat, by rw [BitVec.toNat_ofNat, Nat.mod_eq_of_lt (by omega)]; omega⟩
theorem turn_01 {m S r₀ r : Int} {n : Nat} {bits : List Int} (h : TurnP m S r₀ n r bits) (hm0 : 0 ≤ m) (hm1 : m < 4294967296) (hr0 : 0 ≤ r₀) (hr1 : r₀ < 4294967296) (hl : bits.length = n) : Bits01 bits := by
  obtain ⟨mv, rfl⟩ := vec_of hm0 hm1
  obtain ⟨rv, rfl⟩ := vec_of hr0 hr1
  obtain ⟨k, _, hb⟩ := turn_bit h
  unfold Bits01
  intro i
  by_cases hi : i < n
  · rw [hb i hi]; exact bool01 _
  · left; rw [List.getD_eq_getElem?_getD, List.getElem?_eq_none (by omega)]; rfl
theorem turn_run {m r : BitVec 32} {S r' : Int} {bits : List Int} (h : TurnP (m.toNat : Int) S (r.toNat : Int) 64 r' bits) : ∃ k, k ≤ 32 ∧ bmRun (sOf bits) 64 = bmRun (row k m r) 64 := by
  obtain ⟨k, hk, hb⟩ := turn_bit h
  refine ⟨k, hk, bmRun_congr 64 fun i hi => ?_⟩
  unfold sOf
  rw [hb i hi]
  cases row k m r i <;> rfl
theorem vec_ne {v : BitVec 32} (h : (v.toNat : Int) ≠ 0) : v ≠ 0#32 := fun e => h (by rw [e]; rfl)
theorem vec_eq {v : BitVec 32} (h : (v.toNat : Int) = 0) : v = 0#32 := by
  apply BitVec.eq_of_toNat_eq
  have : v.toNat = 0 := by omega
  rw [this]; rfl
theorem range64 : (rangeKs 0 (64 - 0 : Int).toNat).length = 64 := by rw [rangeKs, List.length_map, List.length_range]; rfl
theorem len64 {l : List Int} (h : l.length = (rangeKs 0 (64 - 0 : Int).toNat).length) : l.length = 64 := by rw [h, range64]
theorem end_found {m S r₀ r : Int} {bits : List Int} (h : TurnP m S r₀ (rangeKs 0 (64 - 0 : Int).toNat).length r bits) (hm0 : 0 ≤ m) (hm1 : m < 4294967296) (hr0 : 0 ≤ r₀) (hr1 : r₀ < 4294967296) (hm : m ≠ 0) (hr : r₀ ≠ 0) :
    ((bmRun (sOf bits) 64).length : Int) = 32 ∧ ((bmRun (sOf bits) 64).rule : Int) = 7976584769 := by
  obtain ⟨mv, rfl⟩ := vec_of hm0 hm1
  obtain ⟨rv, rfl⟩ := vec_of hr0 hr1
  rw [range64] at h
  obtain ⟨k, hk, e⟩ := turn_run h
  obtain ⟨f1, f2⟩ := found hk (vec_ne hm) (vec_ne hr)
  rw [e, f1, f2]
  exact ⟨rfl, rfl⟩
theorem end_nought {m S r₀ r : Int} {bits : List Int} (h : TurnP m S r₀ (rangeKs 0 (64 - 0 : Int).toNat).length r bits) (hm0 : 0 ≤ m) (hm1 : m < 4294967296) (hr0 : 0 ≤ r₀) (hr1 : r₀ < 4294967296) (hz : m = 0 ∨ r₀ = 0) :
    ((bmRun (sOf bits) 64).length : Int) = 0 ∧ ((bmRun (sOf bits) 64).rule : Int) = 1 := by
  obtain ⟨mv, rfl⟩ := vec_of hm0 hm1
  obtain ⟨rv, rfl⟩ := vec_of hr0 hr1
  rw [range64] at h
  obtain ⟨k, hk, e⟩ := turn_run h
  obtain ⟨f1, f2⟩ := nought (k := k) (m := mv) (r := rv) (hz.elim (fun h => .inl (vec_eq h)) fun h => .inr (vec_eq h))
  rw [e, f1, f2]
  exact ⟨rfl, rfl⟩
/-! the shortest rule's loop -/
@[irreducible] def BMP (bits : List Int) (n : Nat) (rule older length gap past : Int) : Prop :=
  Bits01 bits ∧ rule = ((bmRun (sOf bits) n).rule : Int) ∧ older = ((bmRun (sOf bits) n).older : Int) ∧ length = ((bmRun (sOf bits) n).length : Int) ∧ gap = ((bmRun (sOf bits) n).gap : Int) ∧ past = ((bmRun (sOf bits) n).past : Int)
section
variable {bits pre : List Int} {n : Nat} {kN rule older length gap past : Int}
theorem bmp_bounds (h : BMP bits n rule older length gap past) : 0 ≤ rule ∧ 0 ≤ older ∧ 0 ≤ length ∧ length ≤ (n : Int) ∧ 0 ≤ gap ∧ gap ≤ (n : Int) + 1 ∧ 0 ≤ past := by
  unfold BMP at h
  obtain ⟨_, h1, h2, h3, h4, h5⟩ := h
  have S := siz_run (sOf bits) n
  have := S.len
  have := S.gap
  omega
theorem bmp_start (h : Bits01 bits) : BMP bits ([] : List Int).length 1 1 0 1 0 ∧ (0 : Int) ≤ 1 ∧ (0 : Int) ≤ 1 ∧ (0 : Int) ≤ 0 ∧ (0 : Int) ≤ (([] : List Int).length : Int) ∧ (0 : Int) ≤ 1 ∧ (1 : Int) ≤ (([] : List Int).length : Int) + 1 ∧ (0 : Int) ≤ 0 := by
  refine ⟨?_, by decide⟩
  unfold BMP
  exact ⟨h, rfl, rfl, rfl, rfl, rfl⟩
theorem bit_is (h : Bits01 bits) (i : Nat) : bits.getD i 0 = ((sOf bits i).toNat : Int) := by
  unfold Bits01 at h
  unfold sOf
  rcases h i with e | e <;> rw [e] <;> rfl
theorem bmp_past (h : BMP bits pre.length rule older length gap past) (hk : kN = 0 + (pre.length : Int)) : 2 * past + bits.getD kN.toNat 0 = ((bmRun (sOf bits) (pre.length + 1)).past : Int) := by
  unfold BMP at h
  obtain ⟨h0, _, _, _, _, h5⟩ := h
  have e : kN.toNat = pre.length := by omega
  rw [e, bit_is h0, h5, show (bmRun (sOf bits) (pre.length + 1)).past = 2 * (bmRun (sOf bits) pre.length).past + (sOf bits pre.length).toNat from bmStep_past ..]
  omega
theorem past_lo (h : BMP bits pre.length rule older length gap past) (hk : kN = 0 + (pre.length : Int)) : 0 ≤ 2 * past + bits.getD kN.toNat 0 := by
  rw [bmp_past h hk]; omega
theorem past_hi (h : BMP bits pre.length rule older length gap past) (hk : kN = 0 + (pre.length : Int)) (hn : pre.length < 64) : 2 * past + bits.getD kN.toNat 0 < 18446744073709551616 := by
  rw [bmp_past h hk]
  have h1 := past_lt (sOf bits) (pre.length + 1)
  have h2 : 2 ^ (pre.length + 1) ≤ 2 ^ 64 := Nat.pow_le_pow_right (by decide) (by omega)
  omega
theorem older_hi (h : BMP bits n rule older length gap past) (hn : n < 64) : older.natAbs < 2 ^ 64 := by
  unfold BMP at h
  obtain ⟨_, _, h2, _, _, _⟩ := h
  have S := siz_run (sOf bits) n
  have h3 := S.old
  have h4 := S.gap
  rw [Nat.shiftLeft_eq] at h3
  have h5 : 2 ^ 1 ≤ 2 ^ (bmRun (sOf bits) n).gap := Nat.pow_le_pow_right (by decide) h4.1
  have h6 : 2 ^ (n + 2 - (bmRun (sOf bits) n).length) ≤ 2 ^ 65 := Nat.pow_le_pow_right (by decide) (by omega)
  have h7 : (bmRun (sOf bits) n).older * 2 ^ 1 ≤ (bmRun (sOf bits) n).older * 2 ^ (bmRun (sOf bits) n).gap := Nat.mul_le_mul_left _ h5
  omega
theorem bmp_odd (h : BMP bits pre.length rule older length gap past) (hk : kN = 0 + (pre.length : Int)) (hn : pre.length < 64) :
    oddC (Builtin.bitAnd rule (2 * past + bits.getD kN.toNat 0)) = ((par ((bmRun (sOf bits) pre.length).rule &&& (2 * (bmRun (sOf bits) pre.length).past + (sOf bits pre.length).toNat))).toNat : Int) := by
  have q := past_hi h hk hn
  rw [bmp_past h hk] at q ⊢
  unfold BMP at h
  obtain ⟨h0, h1, _, _, _, h5⟩ := h
  rw [h1, bitAnd_nat]
  have e : (bmRun (sOf bits) (pre.length + 1)).past = 2 * (bmRun (sOf bits) pre.length).past + (sOf bits pre.length).toNat := bmStep_past ..
  rw [e] at q ⊢
  refine oddC_nat (Nat.lt_of_le_of_lt Nat.and_le_right ?_)
  omega
theorem shl_cast (a g : Nat) : (a : Int) * 2 ^ ((g : Int)).toNat = ((a <<< g : Nat) : Int) := by
  rw [Nat.shiftLeft_eq, Int.toNat_natCast, Int.natCast_mul, Int.natCast_pow]; rfl
theorem bmp_way1 (h : BMP bits pre.length rule older length gap past) (hk : kN = 0 + (pre.length : Int)) (hn : pre.length < 64) (hd : oddC (Builtin.bitAnd rule (2 * past + bits.getD kN.toNat 0)) = 0) :
    BMP bits (pre ++ [kN]).length rule older length (gap + 1) (2 * past + bits.getD kN.toNat 0) := by
  have hp := bmp_past h hk
  rw [bmp_odd h hk hn] at hd
  rw [hp]
  unfold BMP at h ⊢
  obtain ⟨h0, h1, h2, h3, h4, h5⟩ := h
  rw [List.length_append, List.length_singleton]
  have e : bmRun (sOf bits) (pre.length + 1) = bmStep pre.length (sOf bits pre.length) (bmRun (sOf bits) pre.length) := rfl
  have c : par ((bmRun (sOf bits) pre.length).rule &&& (2 * (bmRun (sOf bits) pre.length).past + (sOf bits pre.length).toNat)) = false := by
    revert hd
    cases par ((bmRun (sOf bits) pre.length).rule &&& (2 * (bmRun (sOf bits) pre.length).past + (sOf bits pre.length).toNat)) <;> simp
  unfold bmStep at e
  rw [if_pos c] at e
  rw [e]
  exact ⟨h0, h1, h2, h3, by rw [h4]; rfl, rfl⟩
theorem bmp_way2 (h : BMP bits pre.length rule older length gap past) (hk : kN = 0 + (pre.length : Int)) (hn : pre.length < 64) (hd : oddC (Builtin.bitAnd rule (2 * past + bits.getD kN.toNat 0)) ≠ 0) (hl : kN < 2 * length) :
    BMP bits (pre ++ [kN]).length (Builtin.bitXor rule (older * 2 ^ gap.toNat)) older length (gap + 1) (2 * past + bits.getD kN.toNat 0) := by
  have hp := bmp_past h hk
  rw [bmp_odd h hk hn] at hd
  rw [hp]
  unfold BMP at h ⊢
  obtain ⟨h0, h1, h2, h3, h4, h5⟩ := h
  rw [List.length_append, List.length_singleton]
  have e : bmRun (sOf bits) (pre.length + 1) = bmStep pre.length (sOf bits pre.length) (bmRun (sOf bits) pre.length) := rfl
  have c : ¬ par ((bmRun (sOf bits) pre.length).rule &&& (2 * (bmRun (sOf bits) pre.length).past + (sOf bits pre.length).toNat)) = false := by
    intro c; rw [c] at hd; exact hd rfl
  unfold bmStep at e
  rw [if_neg c, if_pos (by omega)] at e
  rw [e]
  exact ⟨h0, by rw [h1, h2, h4, shl_cast, bitXor_nat], h2, h3, by rw [h4]; rfl, rfl⟩
theorem bmp_way3 (h : BMP bits pre.length rule older length gap past) (hk : kN = 0 + (pre.length : Int)) (hn : pre.length < 64) (hd : oddC (Builtin.bitAnd rule (2 * past + bits.getD kN.toNat 0)) ≠ 0) (hl : ¬ kN < 2 * length) :
    BMP bits (pre ++ [kN]).length (Builtin.bitXor rule (older * 2 ^ gap.toNat)) rule (kN + 1 - length) 1 (2 * past + bits.getD kN.toNat 0) := by
  have hp := bmp_past h hk
  rw [bmp_odd h hk hn] at hd
  rw [hp]
  unfold BMP at h ⊢
  obtain ⟨h0, h1, h2, h3, h4, h5⟩ := h
  rw [List.length_append, List.length_singleton]
  have e : bmRun (sOf bits) (pre.length + 1) = bmStep pre.length (sOf bits pre.length) (bmRun (sOf bits) pre.length) := rfl
  have c : ¬ par ((bmRun (sOf bits) pre.length).rule &&& (2 * (bmRun (sOf bits) pre.length).past + (sOf bits pre.length).toNat)) = false := by
    intro c; rw [c] at hd; exact hd rfl
  unfold bmStep at e
  rw [if_neg c, if_neg (by omega)] at e
  rw [e]
  exact ⟨h0, by rw [h1, h2, h4, shl_cast, bitXor_nat], h1, by show kN + 1 - length = ((pre.length + 1 - (bmRun (sOf bits) pre.length).length : Nat) : Int); omega, rfl, rfl⟩
theorem bmp_and {P : Prop} (h : BMP bits n rule older length gap past) (hP : 0 ≤ rule ∧ 0 ≤ older ∧ 0 ≤ length ∧ length ≤ (n : Int) ∧ 0 ≤ gap ∧ gap ≤ (n : Int) + 1 ∧ 0 ≤ past → P) : BMP bits n rule older length gap past ∧ P := ⟨h, hP (bmp_bounds h)⟩
theorem bmp_end (h : BMP bits (rangeKs 0 ((bits.length : Int) - 0).toNat).length rule older length gap past) (hl : bits.length = 64) : length = ((bmRun (sOf bits) 64).length : Int) ∧ rule = ((bmRun (sOf bits) 64).rule : Int) := by
  have e : (rangeKs 0 ((bits.length : Int) - 0).toNat).length = 64 := by rw [rangeKs, List.length_map, List.length_range, hl]; rfl
  rw [e] at h
  unfold BMP at h
  exact ⟨h.2.2.2.1, h.2.1⟩
end
open_top hd for PySem.Challenge.rw_mj0348_03
section
theorem odd_call (w : World) (mean : ExcName → Option Value) (mg mb : Str → Option Value) (news : List (Addr × Obj)) (e : Int) (te : Tok)
    (dp un : Nat) (gd : Option (List Code)) (cn : Str) (cs : Scope) (a : Addr) (ccd : Value) (cl : List (Str × Addr)) (outer : List Env) (A₀ : Around) (base h₀ : Heap) (L : Addr) (m : Str → Option Value) (s : Shared) (Q E : Value → Shared → Prop)
    (B : Below A₀ base outer h₀) (F : Fr h₀ L s.heap m) (X : (hd.heap_39 w.params).In h₀) (N : News h₀ L s.heap news)
    (T : Top hd.view_39 (looseW hd.view_39 []) mean mg mb h₀) (hk : cs.kind = .function) (hlo : 0 ≤ e) (hhi : e < 18446744073709551616) (hdp : dp + 1 < recursionLimit) (hun : un + 8 < cLine)
    (hret' : ∀ (b : Int) (t : Tok) (h' : Heap) (tk' : Nat), b = oddC e → Fr h₀ L h' m → News h₀ L h' news → Q (.int b t) { s with heap := h', toks := tk' }) :
    wpAny (model Challenge.rw_mj0348_03.row.prog w) (ktrTop dp un gd cn cs L a ccd cl outer) (call (.ref 28) [.int e te]) Q E s := by
  have hret : ∀ (t : Tok) (h' : Heap) (tk' : Nat), Fr h₀ L h' m → News h₀ L h' news → Q (.int (oddC e) t) { s with heap := h', toks := tk' } := fun t h' tk' => hret' _ t h' tk' rfl
  clear hret'
  w_on
  revert X
  k_fill
  intro X
  (k_with "tree" => exact oddC_is _)
  refine wpAny_call ?_
  k_dflt cell_enter
  k_steps
  all_goals cb_end hret
theorem gen_call (w : World) (mean : ExcName → Option Value) (mg mb : Str → Option Value) (news : List (Addr × Obj)) (e : Int) (te : Tok)
    (dp un : Nat) (gd : Option (List Code)) (cn : Str) (cs : Scope) (a : Addr) (ccd : Value) (cl : List (Str × Addr)) (outer : List Env) (A₀ : Around) (base h₀ : Heap) (L : Addr) (m : Str → Option Value) (s : Shared) (Q E : Value → Shared → Prop)
    (B : Below A₀ base outer h₀) (F : Fr h₀ L s.heap m) (X : (hd.heap_39 w.params).In h₀) (N : News h₀ L s.heap news)
    (T : Top hd.view_39 (looseW hd.view_39 []) mean mg mb h₀) (hk : cs.kind = .function) (hdp : dp + 1 < recursionLimit) (hun : un + 8 < cLine)
    (hret' : ∀ (b : Int) (t : Tok) (h' : Heap) (tk' : Nat), b = genC e → Fr h₀ L h' m → News h₀ L h' news → Q (.int b t) { s with heap := h', toks := tk' }) :
    wpAny (model Challenge.rw_mj0348_03.row.prog w) (ktrTop dp un gd cn cs L a ccd cl outer) (call (.ref 21) [.int e te]) Q E s := by
  have hret : ∀ (t : Tok) (h' : Heap) (tk' : Nat), Fr h₀ L h' m → News h₀ L h' news → Q (.int (genC e) t) { s with heap := h', toks := tk' } := fun t h' tk' => hret' _ t h' tk' rfl
  clear hret'
  w_on
  revert X
  k_fill
  intro X
  (k_with "exec For Name Call cons nil" => kpr_for)
  (k_with "pyIter ref" => (k_of "j" => kpr_short))
  (k_with "tree" => exact genC_fold _)
  refine wpAny_call ?_
  k_dflt cell_enter
  k_steps
  all_goals cb_end hret
end
section
theorem and_bd {prog : Program} {w : World} {A : Around} {E : Value → Shared → Prop} {s : Shared} {a b : Int} {t u : Tok} {Q : Value → Shared → Prop} (ha : 0 ≤ a) (hb : 0 ≤ b) (hl : b < 18446744073709551616)
    (h : 0 ≤ Builtin.bitAnd a b → Builtin.bitAnd a b < 18446744073709551616 → Q (.int (Builtin.bitAnd a b) s.toks) { s with toks := s.toks + 1 }) : wpAny (model prog w) A (binaryOp .BitAnd (.int a t) (.int b u)) Q E s := by
  have e : Builtin.bitAnd a b = ((a.toNat &&& b.toNat : Nat) : Int) := bitAnd_pp ha hb
  have q : a.toNat &&& b.toNat ≤ b.toNat := Nat.and_le_right
  exact and_int (h (by omega) (by omega))
local macro_rules | `(tactic| walk_at "binaryOp BitAnd int int") => `(tactic| ((with_reducible refine and_bd ?a1 ?a2 ?a3 ?_); (case a1 => omega); (case a2 => first | omega | exact past_lo (by assumption) (by assumption)); (case a3 => first | omega | exact past_hi (by assumption) (by assumption) (by omega)); intro q1 q2))
local macro_rules | `(tactic| walk_at "binaryOp LShift int int") => `(tactic| ((with_reducible refine lshift_int_small ?a1 ?a2 ?a3 ?_); (case a1 => omega); (case a2 => omega); (case a3 => exact older_hi (by assumption) (by omega))))
theorem short_call (w : World) (mean : ExcName → Option Value) (mg mb : Str → Option Value) (news : List (Addr × Obj)) (D : Addr) (ws : List Value) (bits : List Int) (nn : Nat)
    (dp un : Nat) (gd : Option (List Code)) (cn : Str) (cs : Scope) (a : Addr) (ccd : Value) (cl : List (Str × Addr)) (outer : List Env) (A₀ : Around) (base h₀ : Heap) (L : Addr) (m : Str → Option Value) (s : Shared) (Q E : Value → Shared → Prop)
    (hi : IntsAre ws bits) (hlen : bits.length = 64) (h01 : Bits01 bits) (B : Below A₀ base outer h₀) (F : Fr h₀ L s.heap m) (X : (hd.heap_39 w.params).In h₀) (N : News h₀ L s.heap ((D, W.listOf ws.toArray nn) :: news))
    (T : Top hd.view_39 (looseW hd.view_39 []) mean mg mb h₀) (hk : cs.kind = .function) (hdp : dp + 4 < recursionLimit) (hun : un + 32 < cLine)
    (hret : ∀ D' t1 t2 nn' h' tk', Fr h₀ L h' m → News h₀ L h' ((D', { cls := .type "tuple", data := .seq #[.int ((bmRun (sOf bits) 64).length : Int) t1, .int ((bmRun (sOf bits) 64).rule : Int) t2] nn' }) :: (D, W.listOf ws.toArray nn) :: news) → Q (.ref D') { s with heap := h', toks := tk' }) :
    wpAny (model Challenge.rw_mj0348_03.row.prog w) (ktrTop dp un gd cn cs L a ccd cl outer) (call (.ref 35) [.ref D]) Q E s := by
  w_on
  revert X
  k_fill
  intro X
  (k_with "pyIter ref" => (k_of "n" => k_state_given ["bits"] (fun bits pre rule older length gap past => BMP bits pre.length rule older length gap past ∧ 0 ≤ rule ∧ 0 ≤ older ∧ 0 ≤ length ∧ length ≤ (pre.length : Int) ∧ 0 ≤ gap ∧ gap ≤ (pre.length : Int) + 1 ∧ 0 ≤ past) "rule" "older" "length" "gap" "past"))
  (k_with "state" => first | exact bmp_start (by assumption) | exact bmp_and (bmp_way1 (by assumption) (by assumption) (by omega) (by assumption)) id | exact bmp_and (bmp_way2 (by assumption) (by assumption) (by omega) (by assumption) (by assumption)) id | exact bmp_and (bmp_way3 (by assumption) (by assumption) (by omega) (by assumption) (by assumption)) id)
  (k_with "call ref" => ((with_reducible show wpAny _ _ (call (Value.ref 28) [Value.int _ _]) _ _ _); k_dflt (refine' odd_call _ _ _ _ _ _ _ _ _ _ _ _ _ _ _ _ _ _ _ _ _ _ _ _ ?B ?F ?X ?N ?T ?hk ?hlo ?hhi ?hdp ?hun ?_; (case B => k_asm); (case F => k_asm); (case X => k_asm); (case N => k_asm); (case T => k_asm); (case hk => exact rfl); (case hlo => omega); (case hhi => omega); (case hdp => ktr_room); (case hun => ktr_units); intro b' t' h' tk' hb' F' N'; (subst hb'); (try dsimp only); (try k_fold))))
  refine wpAny_call ?_
  k_dflt cell_enter
  k_steps
  obtain ⟨e1, e2⟩ := bmp_end (by assumption) hlen
  subst e1
  subst e2
  exact hret _ _ _ _ _ _ (by k_asm) (by k_asm)
end
section
theorem use_of {P G : Prop} (h : P) (k : P → G) : G := k h
section
variable {α : Type} {M : Model} {A : Around} {E : Value → Shared → Prop} {s : Shared} {t : Sem α} {Q : α → Shared → Prop} {h₀ : Heap} {L : Addr} {a b c d e f g : Addr × Obj}
theorem clean7 {m : Str → Option Value} (F : Fr h₀ L s.heap m) (N : News h₀ L s.heap [a, b, c, d, e, f, g]) (k : Fr h₀ L s.heap m → News h₀ L s.heap [a, g] → wpAny M A t Q E s) : wpAny M A t Q E s :=
  k F fun p hp => N p (by simp only [List.mem_cons, List.not_mem_nil, or_false] at hp ⊢; rcases hp with h | h <;> simp [h])
theorem clean4 {m : Str → Option Value} (F : Fr h₀ L s.heap m) (N : News h₀ L s.heap [a, b, c, d]) (k : Fr h₀ L s.heap m → News h₀ L s.heap [a, d] → wpAny M A t Q E s) : wpAny M A t Q E s :=
  k F fun p hp => N p (by simp only [List.mem_cons, List.not_mem_nil, or_false] at hp ⊢; rcases hp with h | h <;> simp [h])
end
section
variable {α : Type} {a b c : α} {l k : List α}
theorem in3 : ∀ p ∈ a :: b :: c :: l, p ∈ a :: b :: c :: (l ++ k) := by
  intro p hp; simp only [List.mem_cons, List.mem_append] at hp ⊢; rcases hp with h | h | h | h <;> simp [h]
theorem own3 : ∀ p ∈ k, p ∈ a :: b :: c :: (l ++ k) := by
  intro p hp; simp only [List.mem_cons, List.mem_append]; simp [hp]
theorem in30 : ∀ p ∈ [a, b, c], p ∈ a :: b :: c :: l := by
  intro p hp; simp only [List.mem_cons, List.not_mem_nil, or_false] at hp ⊢; rcases hp with h | h | h <;> simp [h]
theorem own30 : ∀ p ∈ l, p ∈ a :: b :: c :: l := by
  intro p hp; simp only [List.mem_cons]; simp [hp]
end
local macro_rules | `(tactic| walk_at "newList nil") => `(tactic| ((rename News _ _ _ _ => N7); (rename Fr _ _ _ _ => F7); (first | refine clean7 F7 N7 ?_ | refine clean4 F7 N7 ?_); (repeat ((rename News _ _ _ _ => h8); clear h8)); (repeat ((rename Fr _ _ _ _ => h8); clear h8)); intro F8 N8; (repeat ((rename LCg.NsObj _ _ => h8); clear h8)); (repeat ((rename ((_ : Str → Option Value) (Str.ofString "power") = some _) => h8); clear h8)); (repeat ((rename (((_ : Addr) ≠ _ ∧ _) ∧ _) => h8); clear h8)); (repeat ((rename ((_ : Addr) ≠ _ ∧ _) => h8); clear h8))))
local macro_rules | `(tactic| walk_at "InvEndN") => `(tactic| (k_dflt ((rename News _ _ _ _ => nE'); (try simp only [List.push_toArray] at nE'); (first
  | (refine kst_end ⟨_, _⟩ (by assumption) nE' (by exact in3) (by exact own3) (by rfl) (by kst_facts) (by kst_all) (by kst_same) (by kst_p))
  | (refine kst_end ⟨_, _, _, _, _⟩ (by assumption) nE' (by exact in30) (by exact own30) (by rfl) (by kst_facts) (by kst_all) (by kst_same) (by kst_p))))))
local macro_rules | `(tactic| walk_at "CompRest") => `(tactic| (((rename (((_ : Addr) ≠ _ ∧ _) ∧ _) => h8); clear h8); (repeat ((rename (((_ : Addr) ≠ _ ∧ _) ∧ _) => h8); clear h8)); (repeat ((rename ((_ : Addr) ≠ _ ∧ _) => h8); clear h8))))
local macro_rules | `(tactic| walk_at "subscriptTail Name Slice ref ref") => `(tactic| (k_here; (with_reducible show wpAny _ _ (subscriptTail _ (PySem.Expr.Slice _ none (some _) _) (Value.ref _) (Value.ref _)) _ _ _); k_dflt (refine' slice_step ?F ?N ?l ?p ?k ?i ?_ ?s ?t ?z; (case F => k_asm); (case N => k_asm); (case l => kmk_list); (case p => exact IsPart.int _ _); (case k => exact IsPart.int _ _); (case i => l_ints); (case s => with_unfolding_all rfl); (case t => kmk_pure); (case z => kmk_size)); intro D' ws' ms' h' F' N' l1 hI' hC'; (try k_lt l1); (try k_sweep)))
local macro_rules | `(tactic| walk_at "ite") => `(tactic| first | with_reducible refine ite_tt ?_ | with_reducible refine ite_ff ?_)
local macro_rules | `(tactic| walk_at "binaryOp Mod int int") => `(tactic| ((with_reducible show wpAny _ _ (binaryOp .Mod (Value.int _ _) (Value.int (2 ^ Int.toNat 32) _)) _ _ _); (with_reducible refine mod32 ?_); intro r0 r1 r2))
local macro_rules | `(tactic| walk_at "binaryOp BitAnd int int") => `(tactic| ((with_reducible refine and_bd ?a1 ?a2 ?a3 ?_); (case a1 => omega); (case a2 => omega); (case a3 => omega); intro q1 q2))
local macro_rules | `(tactic| walk_at "call ref") => `(tactic| ((with_reducible show wpAny _ _ (call (Value.ref 28) [Value.int _ _]) _ _ _); k_dflt (refine' odd_call _ _ _ _ _ _ _ _ _ _ _ _ _ _ _ _ _ _ _ _ _ _ _ _ ?B ?F ?X ?N ?T ?hk ?hlo ?hhi ?hdp ?hun ?_; (case B => k_asm); (case F => k_asm); (case X => k_asm); (case N => k_asm); (case T => k_asm); (case hk => exact rfl); (case hlo => omega); (case hhi => omega); (case hdp => ktr_room); (case hun => ktr_units); intro b' t' h' tk' hb' F' N'; (try dsimp only); (try k_fold))))
local macro_rules | `(tactic| walk_at "call ref") => `(tactic| ((with_reducible show wpAny _ _ (call (Value.ref 21) [Value.int _ _]) _ _ _); k_dflt (refine' gen_call _ _ _ _ _ _ _ _ _ _ _ _ _ _ _ _ _ _ _ _ _ _ _ _ ?B ?F ?X ?N ?T ?hk ?hdp ?hun ?_; (case B => k_asm); (case F => k_asm); (case X => k_asm); (case N => k_asm); (case T => k_asm); (case hk => exact rfl); (case hdp => ktr_room); (case hun => ktr_units); intro b' t' h' tk' hb' F' N'; (try dsimp only); (try k_fold))))
local macro_rules | `(tactic| walk_at "call ref") => `(tactic| ((with_reducible show wpAny _ _ (call (Value.ref 35) [Value.ref _]) _ _ _); k_dflt (refine' short_call _ _ _ _ _ _ _ _ _ _ _ _ _ _ _ _ _ _ _ _ _ _ _ _ _ _ ?hi ?hlen ?h01 ?B ?F ?X ?N ?T ?hk ?hdp ?hun ?_; (case B => k_asm); (case F => k_asm); (case X => k_asm); (case N => k_asm); (case T => k_asm); (case hk => exact rfl); (case hi => assumption); (case hlen => exact len64 (by assumption)); (case h01 => exact turn_01 (by assumption) (by assumption) (by assumption) (by assumption) (by assumption) (by assumption)); (case hdp => ktr_room); (case hun => ktr_units); intro D' t1 t2 nn' h' tk' F' N'; (first | refine use_of (end_found (by assumption) (by assumption) (by assumption) (by assumption) (by assumption) (by assumption) (by assumption)) ?_ | refine use_of (end_nought (by assumption) (by assumption) (by assumption) (by assumption) (by assumption) (by first | exact .inl (by assumption) | exact .inr (by assumption))) ?_); rintro ⟨e1, e2⟩; rw [e1, e2] at N'; clear e1 e2; (try dsimp only); (try k_fold))))
local macro_rules | `(tactic| walk_at "exec For Name Call cons nil") => `(tactic| ((rename News _ _ _ _ => nP9); (simp only [List.push_toArray] at nP9)))
local macro_rules | `(tactic| walk_at "CompSrc") => `(tactic| (k_here; k_dflt (refine LCg.CompSrc.ledger (by rfl) (by k_asm) (by k_asm) (by k_mem) (by exact Nat.le_of_ble_eq_true rfl) ?_; intro g'; (show LCg.CompRest _ _ _ _ _ _ _ _ _ _ _ _ _ _ _ 15 0 [] _))))
theorem due_eq {prog : Program} {w : World} {A : Around} {E : Value → Shared → Prop} {s : Shared} {Q : Value → Shared → Prop} {x : Int} {t u : Tok} (e : x = 7976584769) (h : wpAny (model prog w) A (newTuple [.int 32 t, .int 7976584769 u]) Q E s) : wpAny (model prog w) A (newTuple [.int 32 t, .int x u]) Q E s := e ▸ h
local macro_rules | `(tactic| walk_at "newTuple cons int cons") => `(tactic| ((fail_if_success (with_reducible show wpAny _ _ (newTuple [Value.int 32 _, Value.int 7976584769 _]) _ _ _)); (refine due_eq (by decide) ?_)))
local macro_rules | `(tactic| w_fin) => `(tactic| (exact rfl))
theorem walk_holds : PySem.Challenge.rw_mj0348_03.Holds := hd (by
  w_on
  (k_with "pyIter ref" => (k_of "move" => k_state_given ["register!"] (fun r₀ pre register => register = moveC pre.length r₀) "register"))
  (k_with "pyIter ref" => (k_of "turn" => k_state_given ["mask", "numbers", "register!"] (fun mask numbers r₀ pre register bits => TurnP mask numbers.sum r₀ pre.length register bits ∧ 0 ≤ register ∧ bits.length = pre.length) "register" "bits"))
  (k_with "state" => first | exact turn_start _ _ (by assumption) | exact move_start _ | exact move_turn (by assumption) (by assumption) | exact turn_turn (by assumption) (by assumption) (by assumption) (by assumption) (by assumption) rfl)
  w_strict (k_go0; (all_goals try k_fold); k_steps; (all_goals (try k_data)); all_goals w_report))
end
end Mine03
theorem PySem.Challenge.cw_mj0348_03_holds : PySem.Challenge.rw_mj0348_03.Holds := by
  exact Mine03.walk_holds
