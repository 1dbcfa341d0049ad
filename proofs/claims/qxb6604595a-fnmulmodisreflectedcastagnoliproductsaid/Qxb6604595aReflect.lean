/-
  THE OTHER ROAD TO THE PRODUCT, PLAIN: turn both words, multiply without carries, divide with remainder, turn back: it comes to the same word. No Go in sight.
-/
import Derived.Test.Qxb6604595aPoly
namespace Go.Proofs.Qxb6604595a.Poly

/-- n rounds of 'zzRev32'. -/
def revN : Nat → BitVec 32 → BitVec 32 → BitVec 32
  | 0, _, r => r
  | n + 1, x, r => revN n (x >>> 1) ((r <<< 1) ||| (x &&& 1#32))

def rev (x : BitVec 32) : BitVec 32 := revN 32 x 0#32

theorem revN_bit : ∀ (n : Nat) (x r : BitVec 32) (i : Nat), n ≤ 32 → i < 32 → (revN n x r).getLsbD i = if i < n then x.getLsbD (n - 1 - i) else r.getLsbD (i - n) := by
  intro n
  induction n with
  | zero => intro x r i _ _; simp [revN]
  | succ n ih =>
    intro x r i hn hi
    simp only [revN]
    rw [ih _ _ i (by omega) hi]
    by_cases h1 : i < n
    · rw [if_pos h1, if_pos (by omega), BitVec.getLsbD_ushiftRight, show 1 + (n - 1 - i) = n + 1 - 1 - i from by omega]
    · rw [if_neg h1, BitVec.getLsbD_or, BitVec.getLsbD_and, BitVec.getLsbD_shiftLeft, BitVec.getLsbD_one]
      by_cases h2 : i = n
      · subst h2
        rw [if_pos (by omega)]
        simp
      · rw [if_neg (by omega)]
        have e1 : decide (i - n < 32) = true := decide_eq_true (by omega)
        have e2 : decide (i - n < 1) = false := decide_eq_false (by omega)
        have e3 : decide (i - n = 0) = false := decide_eq_false (by omega)
        rw [e1, e2, e3, show i - n - 1 = i - (n + 1) from by omega]
        simp

theorem rev_bit (x : BitVec 32) (i : Nat) (h : i < 32) : (rev x).getLsbD i = x.getLsbD (31 - i) := by
  unfold rev
  rw [revN_bit 32 x 0#32 i (Nat.le_refl _) h, if_pos h, show 32 - 1 - i = 31 - i from by omega]

theorem rev_rev (x : BitVec 32) : rev (rev x) = x := by
  apply BitVec.eq_of_getLsbD_eq
  intro i hi
  rw [rev_bit _ i hi, rev_bit _ _ (by omega), show 31 - (31 - i) = i from by omega]

theorem rev_xor (x y : BitVec 32) : rev (x ^^^ y) = rev x ^^^ rev y := by
  apply BitVec.eq_of_getLsbD_eq
  intro i hi
  rw [rev_bit _ i hi, BitVec.getLsbD_xor, BitVec.getLsbD_xor, rev_bit _ i hi, rev_bit _ i hi]

theorem rev_shl (x : BitVec 32) : rev (x <<< 1) = rev x >>> 1 := by
  apply BitVec.eq_of_getLsbD_eq
  intro i hi
  rw [rev_bit _ i hi, BitVec.getLsbD_ushiftRight, BitVec.getLsbD_shiftLeft]
  by_cases h : i = 31
  · subst h
    rw [BitVec.getLsbD_of_ge (rev x) (1 + 31) (by omega)]
    simp
  · rw [rev_bit _ (1 + i) (by omega), show 31 - (1 + i) = 31 - i - 1 from by omega]
    have e1 : decide (31 - i < 32) = true := decide_eq_true (by omega)
    have e2 : decide (31 - i < 1) = false := decide_eq_false (by omega)
    rw [e1, e2]
    simp

/-- One test of the division: the bit i, where it is set, is struck. -/
def proc (i : Nat) (p : BitVec 64) : BitVec 64 := if p.getLsbD i = true then p ^^^ (4812730177#64 <<< (i - 32)) else p

/-- The bits 31 + n down to 32. -/
def redN : Nat → BitVec 64 → BitVec 64
  | 0, p => p
  | n + 1, p => redN n (proc (32 + n) p)

def red (p : BitVec 64) : BitVec 32 := (redN 32 p).setWidth 32

theorem proc_xor (i : Nat) (p q : BitVec 64) : proc i (p ^^^ q) = proc i p ^^^ proc i q := by
  unfold proc
  rw [BitVec.getLsbD_xor]
  generalize 4812730177#64 <<< (i - 32) = c
  cases p.getLsbD i <;> cases q.getLsbD i
  · simp
  · simp; ac_rfl
  · simp; ac_rfl
  · have e : (p ^^^ c) ^^^ (q ^^^ c) = (p ^^^ q) ^^^ (c ^^^ c) := by ac_rfl
    simp only [Bool.xor_self, Bool.false_eq_true, if_false, if_true]
    rw [e, BitVec.xor_self, BitVec.xor_zero]

theorem redN_xor : ∀ (n : Nat) (p q : BitVec 64), redN n (p ^^^ q) = redN n p ^^^ redN n q := by
  intro n
  induction n with
  | zero => intro p q; rfl
  | succ n ih => intro p q; simp only [redN]; rw [proc_xor, ih]

theorem red_xor (p q : BitVec 64) : red (p ^^^ q) = red p ^^^ red q := by
  unfold red
  rw [redN_xor, BitVec.setWidth_xor]

theorem proc_shl (i : Nat) (p : BitVec 64) (h1 : 32 ≤ i) (h2 : i + 1 < 64) : proc (i + 1) (p <<< 1) = proc i p <<< 1 := by
  unfold proc
  have e : (p <<< 1).getLsbD (i + 1) = p.getLsbD i := by
    rw [BitVec.getLsbD_shiftLeft]
    have a : decide (i + 1 < 64) = true := decide_eq_true h2
    have b : decide (i + 1 < 1) = false := decide_eq_false (by omega)
    rw [a, b, show i + 1 - 1 = i from by omega]
    simp
  rw [e]
  split
  · rw [BitVec.shiftLeft_xor_distrib, ← BitVec.shiftLeft_add, show i - 32 + 1 = i + 1 - 32 from by omega]
  · rfl

theorem redN_shl : ∀ (n : Nat) (p : BitVec 64), n ≤ 31 → redN (n + 1) (p <<< 1) = proc 32 (redN n p <<< 1) := by
  intro n
  induction n with
  | zero => intro p _; rfl
  | succ n ih =>
    intro p hn
    show redN (n + 1) (proc (32 + (n + 1)) (p <<< 1)) = proc 32 (redN n (proc (32 + n) p) <<< 1)
    rw [show 32 + (n + 1) = 32 + n + 1 from by omega, proc_shl (32 + n) p (by omega) (by omega), ih _ (by omega)]

theorem red_shl (p : BitVec 64) (h : p.getLsbD 63 = false) : red (p <<< 1) = (red p <<< 1) ^^^ (if (red p).getLsbD 31 = true then 517762881#32 else 0#32) := by
  have e1 : redN 32 p = redN 31 p := by
    show redN 31 (proc (32 + 31) p) = redN 31 p
    unfold proc
    rw [show 32 + 31 = 63 from rfl, if_neg (by rw [h]; decide)]
  have e2 : redN 32 (p <<< 1) = proc 32 (redN 31 p <<< 1) := redN_shl 31 p (Nat.le_refl _)
  unfold red
  rw [e1, e2]
  generalize redN 31 p = r
  have e3 : (r <<< 1).getLsbD 32 = (r.setWidth 32).getLsbD 31 := by
    rw [BitVec.getLsbD_shiftLeft, BitVec.getLsbD_setWidth]
    simp
  have e4 : (r <<< 1).setWidth 32 = (r.setWidth 32) <<< 1 := by
    apply BitVec.eq_of_getLsbD_eq
    intro i hi
    rw [BitVec.getLsbD_setWidth, BitVec.getLsbD_shiftLeft, BitVec.getLsbD_shiftLeft, BitVec.getLsbD_setWidth]
    have a : decide (i < 64) = true := decide_eq_true (by omega)
    have b : decide (i < 32) = true := decide_eq_true hi
    have c : decide (i - 1 < 32) = true := decide_eq_true (by omega)
    rw [a, b, c]
    simp
  unfold proc
  rw [e3]
  split
  · rw [BitVec.setWidth_xor, e4]
    congr 1
  · rw [e4, BitVec.xor_zero]

/-- Divide, then turn. -/
def turned (p : BitVec 64) : BitVec 32 := rev (red p)

theorem turned_xor (p q : BitVec 64) : turned (p ^^^ q) = turned p ^^^ turned q := by
  unfold turned
  rw [red_xor, rev_xor]

theorem turned_zero : turned 0#64 = 0#32 := by
  have h := turned_xor 0#64 0#64
  rw [BitVec.xor_self, BitVec.xor_self] at h
  exact h

theorem turned_shl (p : BitVec 64) (h : p.getLsbD 63 = false) : turned (p <<< 1) = stepX (turned p) := by
  unfold turned
  rw [red_shl p h, rev_xor, rev_shl]
  unfold stepX
  rw [rev_bit _ 0 (by omega), show 31 - 0 = 31 from rfl]
  congr 1
  cases (red p).getLsbD 31 <;> decide

theorem redN_small : ∀ (n : Nat) (p : BitVec 64), (∀ i, 32 ≤ i → p.getLsbD i = false) → redN n p = p := by
  intro n
  induction n with
  | zero => intro p _; rfl
  | succ n ih =>
    intro p h
    show redN n (proc (32 + n) p) = p
    have e : proc (32 + n) p = p := by
      unfold proc
      rw [if_neg (by simp [h (32 + n) (by omega)])]
    rw [e, ih p h]

theorem turned_word (a : BitVec 32) : turned (a.setWidth 64) = rev a := by
  unfold turned red
  rw [redN_small 32 _ (fun i hi => by rw [BitVec.getLsbD_setWidth, BitVec.getLsbD_of_ge a i hi]; simp)]
  congr 1
  apply BitVec.eq_of_getLsbD_eq
  intro i hi
  rw [BitVec.getLsbD_setWidth, BitVec.getLsbD_setWidth]
  have a : decide (i < 64) = true := decide_eq_true (by omega)
  have b : decide (i < 32) = true := decide_eq_true hi
  rw [a, b]
  simp

/-- k steps. -/
def itX : Nat → BitVec 32 → BitVec 32
  | 0, b => b
  | k + 1, b => stepX (itX k b)

theorem turned_pow (a : BitVec 32) : ∀ k, k ≤ 31 → turned (a.setWidth 64 <<< k) = itX k (rev a) := by
  intro k
  induction k with
  | zero => intro _; rw [BitVec.shiftLeft_zero]; exact turned_word a
  | succ k ih =>
    intro hk
    rw [BitVec.shiftLeft_add, turned_shl _ ?_, ih (by omega)]
    · rfl
    · rw [BitVec.getLsbD_shiftLeft, BitVec.getLsbD_setWidth, BitVec.getLsbD_of_ge a (63 - k) (by omega)]
      simp

/-- k rounds of 'zzClmul'. -/
def clN (a b : BitVec 32) : Nat → BitVec 64
  | 0 => 0#64
  | k + 1 => clN a b k ^^^ (if b.getLsbD k = true then a.setWidth 64 <<< k else 0#64)

theorem turned_cl (a b : BitVec 32) : ∀ k, k ≤ 32 → turned (clN (rev a) (rev b) k) ^^^ mulN (32 - k) (b <<< k) (itX k a) = mul b a := by
  intro k
  induction k with
  | zero => intro _; simp only [clN, turned_zero]; simp [mul, itX]
  | succ k ih =>
    intro hk
    rw [← ih (by omega), show 32 - k = (32 - (k + 1)) + 1 from by omega]
    simp only [clN, mulN]
    rw [turned_xor, BitVec.xor_assoc]
    congr 1
    have e : (rev b).getLsbD k = (b <<< k).getLsbD 31 := by
      rw [rev_bit _ k (by omega), BitVec.getLsbD_shiftLeft]
      have x : decide (31 < k) = false := decide_eq_false (by omega)
      rw [x]
      simp
    rw [e, BitVec.shiftLeft_add]
    congr 1
    cases (b <<< k).getLsbD 31
    · simp [turned_zero]
    · rw [if_pos rfl, if_pos rfl, turned_pow _ k (by omega), rev_rev]

/-- The other road. -/
def model (a b : BitVec 32) : BitVec 32 := rev (red (clN (rev a) (rev b) 32))

theorem model_is_mul (a b : BitVec 32) : model a b = mul a b := by
  have h := turned_cl a b 32 (Nat.le_refl _)
  rw [show 32 - 32 = 0 from rfl, show mulN 0 (b <<< 32) (itX 32 a) = 0#32 from rfl, BitVec.xor_zero, mul_comm] at h
  exact h

end Go.Proofs.Qxb6604595a.Poly
