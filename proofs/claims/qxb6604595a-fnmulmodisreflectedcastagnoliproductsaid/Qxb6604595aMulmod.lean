/-
  THE WALK OF mulmod (15, 7): it computes the plain product 'mul'; and what the walk's integers say of words of bits.
-/
import Derived.Test.Qxb6604595aProg
import Derived.Test.Qxb6604595aPoly
import Derived.WalkKit
import Derived.ProofKit
import Derived.Handy
import Derived.Deep.LoopGhost
namespace Go.Proofs.Qxb6604595a
open Go.ChangeShapes Go.WideShapes Go.ChangeAt Go.RowKit
open Poly

/-! ### From the walk's integers to words of bits -/
theorem xor_u32 (u v : BitVec 32) : bits .xor .u32 (u.toNat : Int) (v.toNat : Int) = ((u ^^^ v).toNat : Int) := by
  rw [u32_xor_nat _ _ u.isLt v.isLt, BitVec.toNat_xor]

theorem shl_u32 (x : BitVec 32) : (x.toNat : Int) * (2 : Int) % (4294967296 : Int) = ((x <<< 1).toNat : Int) := by
  rw [BitVec.toNat_shiftLeft, Nat.shiftLeft_eq]
  omega

theorem shr_u32 (x : BitVec 32) : (x.toNat : Int) / (2 : Int) = ((x >>> 1).toNat : Int) := by
  rw [BitVec.toNat_ushiftRight, Nat.shiftRight_eq_div_pow]
  omega

theorem top_u32 (x : BitVec 32) : (x.toNat : Int) / (2147483648 : Int) = if x.getLsbD 31 = true then 1 else 0 := by
  have h := x.isLt
  rw [BitVec.getLsbD, Nat.testBit_eq_decide_div_mod_eq]
  simp only [decide_eq_true_eq]
  split <;> omega

theorem low_u32 (y : BitVec 32) : bits .and .u32 (y.toNat : Int) 1 = if y.getLsbD 0 = true then 1 else 0 := by
  have e := u32_and_nat y.toNat 1 y.isLt (by decide)
  rw [show ((1 : Nat) : Int) = 1 from rfl] at e
  rw [e, nat_mask1, BitVec.getLsbD, Nat.testBit_eq_decide_div_mod_eq]
  simp only [decide_eq_true_eq]
  split <;> omega

theorem mask_u32 (y : BitVec 32) (c : Bool) : bits .and .u32 (y.toNat : Int) (-(if c = true then 1 else 0) % 4294967296) = ((if c = true then y else 0#32).toNat : Int) := by
  have h := y.isLt
  cases c
  · rw [if_neg (by decide), if_neg (by decide), show (-(0 : Int) % 4294967296) = ((0 : Nat) : Int) from rfl, u32_and_nat y.toNat 0 h (by decide)]
    simp
  · rw [if_pos rfl, if_pos rfl, show (-(1 : Int) % 4294967296) = ((4294967295 : Nat) : Int) from rfl, u32_and_nat y.toNat 4294967295 h (by decide)]
    rw [show (4294967295 : Nat) = 2 ^ 32 - 1 from by decide, Nat.and_two_pow_sub_one_eq_mod, Nat.mod_eq_of_lt h]

theorem step_u32 (y : BitVec 32) : bits .xor .u32 ((y.toNat : Int) / 2) (bits .and .u32 2197175160 (-bits .and .u32 (y.toNat : Int) 1 % 4294967296)) = ((stepX y).toNat : Int) := by
  have m := mask_u32 2197175160#32 (y.getLsbD 0)
  rw [show ((2197175160#32 : BitVec 32).toNat : Int) = 2197175160 from rfl] at m
  rw [low_u32, m, shr_u32, xor_u32]
  rfl

theorem sum_u32 (x y p : BitVec 32) : bits .xor .u32 (p.toNat : Int) (bits .and .u32 (y.toNat : Int) (-((x.toNat : Int) / 2147483648) % 4294967296)) = ((p ^^^ (if x.getLsbD 31 = true then y else 0#32)).toNat : Int) := by
  rw [top_u32, mask_u32, xor_u32]

set_option maxHeartbeats 800000 in
theorem mulmod_any (a b : BitVec 32) (w : World) : Calls Try.prog 15 #[.int .u32 a.toNat, .int .u32 b.toNat] w fun r w' => r = .returned (.int .u32 (mul a b).toNat) ∧ w = w' := by
  go_enter Try.func15, Try.ntmps15
  go_wp2
  go_loopg [0, 1, 5] 32 (fun g va vb vp wr => ∃ x y p : BitVec 32, g ≤ 32 ∧ va = .int .u32 x.toNat ∧ vb = .int .u32 y.toNat ∧ vp = .int .u32 p.toNat ∧ x = a <<< (32 - g) ∧ p ^^^ mulN g x y = mul a b ∧ w = wr)
  case atStart => exact ⟨a, b, 0#32, by omega, rfl, rfl, rfl, by simp, by simp [mul], rfl⟩
  case round =>
    obtain ⟨x, y, p, hg, rfl, rfl, rfl, hx, hm, rfl⟩ := hrel
    have HX : Hid (x = a <<< (32 - gk)) := hx
    have HM : Hid (p ^^^ mulN gk x y = mul a b) := hm
    clear hx hm
    have x1 := x.isLt
    have y1 := y.isLt
    have p1 := p.isLt
    by_cases h0 : x.toNat = 0
    · have hd : ((x.toNat : Int) != 0) = false := by simp [h0]
      have HE : Hid (mul a b = p) := by
        have e : x = 0#32 := BitVec.eq_of_toNat_eq (by simpa using h0)
        have m := HM.out
        rw [e, mulN_zero, BitVec.xor_zero] at m
        exact m.symm
      go_wp2
      go_ret
      exact ⟨by rw [HE.out]; rfl, rfl⟩
    · have hd : ((x.toNat : Int) != 0) = true := by simpa using h0
      generalize hxi : (x.toNat : Int) = X at *
      generalize hyi : (y.toNat : Int) = Y at *
      generalize hpi : (p.toNat : Int) = Z at *
      have X0 : 0 ≤ X := by omega
      have X1 : X ≤ 4294967295 := by omega
      have Y0 : 0 ≤ Y := by omega
      have Y1 : Y ≤ 4294967295 := by omega
      have Z0 : 0 ≤ Z := by omega
      have Z1 : Z ≤ 4294967295 := by omega
      have HXI : Hid ((x.toNat : Int) = X) := hxi
      have HYI : Hid ((y.toNat : Int) = Y) := hyi
      have HPI : Hid ((p.toNat : Int) = Z) := hpi
      clear hxi hyi hpi x1 y1 p1
      obtain ⟨g, hgk⟩ : ∃ g, gk = g + 1 := by
        cases gk with
        | zero =>
          exfalso
          apply h0
          rw [HX.out]
          simp
        | succ g => exact ⟨g, rfl⟩
      subst hgk
      go_wp2
      go_roundg g
      case measure => omega
      case rel =>
        rw [← HXI.out, ← HYI.out, ← HPI.out]
        refine ⟨x <<< 1, stepX y, p ^^^ (if x.getLsbD 31 = true then y else 0#32), by omega, ?_, ?_, ?_, ?_, ?_, rfl⟩
        · rw [shl_u32]
        · rw [step_u32]
        · rw [sum_u32]
        · rw [HX.out, ← BitVec.shiftLeft_add, show 32 - (g + 1) + 1 = 32 - g from by omega]
        · rw [BitVec.xor_assoc]; exact HM.out
theorem zzMul_any (a b : BitVec 32) (w : World) : Calls Try.prog 7 #[.int .u32 a.toNat, .int .u32 b.toNat] w fun r w' => r = .returned (.int .u32 (mul a b).toNat) ∧ w = w' := by
  go_enter Try.func7, Try.ntmps7
  go_wp2_with (go_at_call 15; refine (mulmod_any _ _ _).mono ?_; rintro r w' ⟨rfl, rfl⟩)
  go_ret
  exact ⟨rfl, rfl⟩

theorem wf_u32 {a : Int} (h : (Lit.int .u32 a).wf = true) : 0 ≤ a ∧ a ≤ 4294967295 := by
  simpa [Lit.wf, IntKind.min, IntKind.max, IntKind.bits, IntKind.signed] using h

/-- Every number that fits uint32 is a word of 32 bits. -/
theorem word_u32 {a : Int} (h : (Lit.int .u32 a).wf = true) : ∃ x : BitVec 32, a = (x.toNat : Int) := by
  obtain ⟨h0, h1⟩ := wf_u32 h
  refine ⟨BitVec.ofNat 32 a.toNat, ?_⟩
  rw [BitVec.toNat_ofNat, Nat.mod_eq_of_lt (by omega)]
  omega
end Go.Proofs.Qxb6604595a
