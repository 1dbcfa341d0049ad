/-
  THE PLAIN LAWS OF THE PRODUCT THAT mulmod COMPUTES, OVER WORDS OF 32 BITS: no Go in sight.
-/
namespace Go.Proofs.Qxb6604595a.Poly

/-- One step: times x, reduced: the lowest bit is the weight x^31. -/
def stepX (b : BitVec 32) : BitVec 32 := (b >>> 1) ^^^ (if b.getLsbD 0 = true then 2197175160#32 else 0#32)

/-- n rounds of 'mulmod'. -/
def mulN : Nat → BitVec 32 → BitVec 32 → BitVec 32
  | 0, _, _ => 0#32
  | n + 1, a, b => (if a.getLsbD 31 = true then b else 0#32) ^^^ mulN n (a <<< 1) (stepX b)

def mul (a b : BitVec 32) : BitVec 32 := mulN 32 a b

theorem stepX_xor (b c : BitVec 32) : stepX (b ^^^ c) = stepX b ^^^ stepX c := by
  unfold stepX
  rw [BitVec.ushiftRight_xor_distrib, BitVec.getLsbD_xor]
  generalize b >>> 1 = u
  generalize c >>> 1 = v
  generalize 2197175160#32 = p
  cases b.getLsbD 0 <;> cases c.getLsbD 0
  · simp
  · simp; ac_rfl
  · simp; ac_rfl
  · have e : (u ^^^ p) ^^^ (v ^^^ p) = (u ^^^ v) ^^^ (p ^^^ p) := by ac_rfl
    simp only [Bool.xor_self, Bool.false_eq_true, if_false, if_true]
    rw [e, BitVec.xor_self]

theorem stepX_zero : stepX 0#32 = 0#32 := by decide

theorem mulN_zero (b : BitVec 32) : ∀ n, mulN n 0#32 b = 0#32 := by
  intro n
  induction n generalizing b with
  | zero => rfl
  | succ n ih =>
    simp only [mulN]
    rw [show (0#32 : BitVec 32) <<< 1 = 0#32 from by decide, ih]
    simp

/-- A map that keeps sums and commutes with the step goes through the product. -/
theorem mulN_map (f : BitVec 32 → BitVec 32) (h0 : f 0#32 = 0#32) (hx : ∀ x y, f (x ^^^ y) = f x ^^^ f y) (hs : ∀ x, f (stepX x) = stepX (f x)) :
    ∀ (n : Nat) (a b : BitVec 32), f (mulN n a b) = mulN n a (f b) := by
  intro n
  induction n with
  | zero => intro a b; exact h0
  | succ n ih =>
    intro a b
    simp only [mulN]
    rw [hx, ih, hs]
    congr 1
    split
    · rfl
    · exact h0

theorem mulN_xor : ∀ (n : Nat) (a b c : BitVec 32), mulN n a (b ^^^ c) = mulN n a b ^^^ mulN n a c := by
  intro n
  induction n with
  | zero => intro a b c; simp [mulN]
  | succ n ih =>
    intro a b c
    simp only [mulN]
    rw [stepX_xor, ih]
    split
    · ac_rfl
    · simp

theorem mulN_zero_right : ∀ (n : Nat) (a : BitVec 32), mulN n a 0#32 = 0#32 := by
  intro n
  induction n with
  | zero => intro a; rfl
  | succ n ih => intro a; simp only [mulN]; rw [stepX_zero, ih]; simp

theorem mulN_step : ∀ (n : Nat) (a b : BitVec 32), mulN n a (stepX b) = stepX (mulN n a b) := fun n a b => (mulN_map stepX stepX_zero stepX_xor (fun _ => rfl) n a b).symm

theorem stepX_pow (n : Nat) (h : n < 31) : stepX (1#32 <<< (n + 1)) = 1#32 <<< n := by
  have a : ∀ n : Fin 31, stepX (1#32 <<< (n.val + 1)) = 1#32 <<< n.val := by decide
  exact a ⟨n, h⟩

theorem mulN_pow : ∀ (n : Nat) (_ : n ≤ 31) (a : BitVec 32), mulN (n + 1) a (1#32 <<< n) = a >>> (31 - n) := by
  intro n
  induction n with
  | zero =>
    intro _ a
    apply BitVec.eq_of_getLsbD_eq
    intro i hi
    show ((if a.getLsbD 31 = true then 1#32 <<< 0 else 0#32) ^^^ 0#32).getLsbD i = (a >>> 31).getLsbD i
    rw [BitVec.xor_zero, BitVec.getLsbD_ushiftRight]
    by_cases x : i = 0
    · subst x
      rw [show 31 + 0 = 31 from rfl]
      cases a.getLsbD 31 <;> decide
    · rw [BitVec.getLsbD_of_ge a (31 + i) (by omega)]
      split
      · rw [BitVec.getLsbD_shiftLeft, BitVec.getLsbD_one]; simp; omega
      · simp
  | succ n ih =>
    intro hn a
    show (if a.getLsbD 31 = true then 1#32 <<< (n + 1) else 0#32) ^^^ mulN (n + 1) (a <<< 1) (stepX (1#32 <<< (n + 1))) = _
    rw [stepX_pow n (by omega), ih (by omega)]
    apply BitVec.eq_of_getLsbD_eq
    intro i hi
    rw [BitVec.getLsbD_xor, BitVec.getLsbD_ushiftRight, BitVec.getLsbD_ushiftRight, BitVec.getLsbD_shiftLeft]
    have hp : ((if a.getLsbD 31 = true then 1#32 <<< (n + 1) else 0#32 : BitVec 32)).getLsbD i = (a.getLsbD 31 && decide (i = n + 1)) := by
      cases a.getLsbD 31
      · simp
      · simp only [if_true, Bool.true_and]
        rw [BitVec.getLsbD_shiftLeft, BitVec.getLsbD_one]
        simp
        by_cases x : i = n + 1
        · subst x; simp; omega
        · simp [x]; omega
    rw [hp]
    by_cases x : i = n + 1
    · subst x
      rw [show 31 - (n + 1) + (n + 1) = 31 from by omega]
      rw [show decide (31 - n + (n + 1) < 32) = false from decide_eq_false (by omega)]
      simp
    · by_cases y : i < n + 1
      · rw [show 31 - n + i - 1 = 31 - (n + 1) + i from by omega]
        simp [x]; omega
      · rw [BitVec.getLsbD_of_ge a (31 - (n + 1) + i) (by omega)]
        simp [x]; omega

theorem mul_one (a : BitVec 32) : mul a 2147483648#32 = a := by
  have h := mulN_pow 31 (Nat.le_refl _) a
  rw [show (1#32 : BitVec 32) <<< 31 = 2147483648#32 from by decide] at h
  simpa [mul] using h

theorem mul_comm (a b : BitVec 32) : mul a b = mul b a := by
  have h := mulN_map (mulN 32 a) (mulN_zero_right 32 a) (mulN_xor 32 a) (mulN_step 32 a) 32 b 2147483648#32
  have e1 : mulN 32 b 2147483648#32 = b := mul_one b
  have e2 : mulN 32 a 2147483648#32 = a := mul_one a
  rw [e1, e2] at h
  exact h

theorem mul_swap (a b c : BitVec 32) : mul a (mul b c) = mul b (mul a c) := mulN_map (mulN 32 a) (mulN_zero_right 32 a) (mulN_xor 32 a) (mulN_step 32 a) 32 b c

theorem mul_assoc (a b c : BitVec 32) : mul (mul a b) c = mul a (mul b c) := by
  rw [mul_comm (mul a b) c, mul_swap c a b, mul_comm c b]

theorem mul_xor (a b c : BitVec 32) : mul a (b ^^^ c) = mul a b ^^^ mul a c := mulN_xor 32 a b c

theorem one_mul (a : BitVec 32) : mul 2147483648#32 a = a := by rw [mul_comm]; exact mul_one a

end Go.Proofs.Qxb6604595a.Poly
