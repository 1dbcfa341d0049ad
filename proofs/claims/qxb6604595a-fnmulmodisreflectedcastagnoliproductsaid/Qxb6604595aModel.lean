/-
  THE WALKS OF THE OTHER ROAD: zzRev32 (16), zzClmul (18), zzReduceCastagnoli (17), zzMulModel (8).
-/
import Derived.Test.Qxb6604595aMulmod
import Derived.Test.Qxb6604595aReflect
namespace Go.Proofs.Qxb6604595a
open Go.ChangeShapes Go.WideShapes Go.ChangeAt Go.RowKit
open Poly

theorem or_u32 (u v : BitVec 32) : bits .or .u32 (u.toNat : Int) (v.toNat : Int) = ((u ||| v).toNat : Int) := by
  rw [u32_or_nat _ _ u.isLt v.isLt, BitVec.toNat_or]

theorem and1_u32 (y : BitVec 32) : bits .and .u32 (y.toNat : Int) 1 = ((y &&& 1#32).toNat : Int) := by
  have e := u32_and_nat y.toNat 1 y.isLt (by decide)
  rw [show ((1 : Nat) : Int) = 1 from rfl] at e
  rw [e, BitVec.toNat_and]
  rfl

theorem xor_u64 (u v : BitVec 64) : bits .xor .u64 (u.toNat : Int) (v.toNat : Int) = ((u ^^^ v).toNat : Int) := by
  rw [u64_xor_nat _ _ u.isLt v.isLt, BitVec.toNat_xor]

theorem cast_div (b k : Nat) : (b : Int) / (2 : Int) ^ k = ((b / 2 ^ k : Nat) : Int) := by
  rw [Int.natCast_ediv, Int.natCast_pow]
  rfl

theorem test_u32 (b : BitVec 32) (k : Nat) : (bits .and .u32 ((b.toNat : Int) / (2 : Int) ^ k) 1 == 1) = b.getLsbD k := by
  have l : b.toNat / 2 ^ k < 4294967296 := Nat.lt_of_le_of_lt (Nat.div_le_self _ _) b.isLt
  have e := u32_and_nat (b.toNat / 2 ^ k) 1 l (by decide)
  rw [show ((1 : Nat) : Int) = 1 from rfl] at e
  rw [cast_div, e, nat_mask1, BitVec.getLsbD, Nat.testBit_eq_decide_div_mod_eq, Bool.eq_iff_iff]
  simp only [beq_iff_eq, decide_eq_true_eq]
  omega

theorem test_u64 (b : BitVec 64) (k : Nat) : (bits .and .u64 ((b.toNat : Int) / (2 : Int) ^ k) 1 == 1) = b.getLsbD k := by
  have l : b.toNat / 2 ^ k < 18446744073709551616 := Nat.lt_of_le_of_lt (Nat.div_le_self _ _) b.isLt
  have e := u64_and_nat (b.toNat / 2 ^ k) 1 l (by decide)
  rw [show ((1 : Nat) : Int) = 1 from rfl] at e
  rw [cast_div, e, nat_mask1, BitVec.getLsbD, Nat.testBit_eq_decide_div_mod_eq, Bool.eq_iff_iff]
  simp only [beq_iff_eq, decide_eq_true_eq]
  omega

theorem shl_u64 (x : BitVec 64) (k : Nat) : IntKind.u64.wrap ((x.toNat : Int) * (2 : Int) ^ k) = ((x <<< k).toNat : Int) := by
  rw [IntKind.wrap_u64, BitVec.toNat_shiftLeft, Nat.shiftLeft_eq, Int.natCast_emod, Int.natCast_mul, Int.natCast_pow]
  rfl

theorem shl_word (a : BitVec 32) (k : Nat) : IntKind.u64.wrap ((a.toNat : Int) * (2 : Int) ^ k) = ((a.setWidth 64 <<< k).toNat : Int) := by
  have h := a.isLt
  have e : (a.setWidth 64).toNat = a.toNat := by rw [BitVec.toNat_setWidth, Nat.mod_eq_of_lt (by omega)]
  have s := shl_u64 (a.setWidth 64) k
  rw [e] at s
  exact s

set_option maxHeartbeats 800000 in
theorem rev_any (x : BitVec 32) (w : World) : Calls Try.prog 16 #[.int .u32 x.toNat] w fun r w' => r = .returned (.int .u32 (rev x).toNat) ∧ w = w' := by
  go_enter Try.func16, Try.ntmps16
  go_wp2
  go_loop [0, 3, 4] (fun vx vr vi => ∃ (k : Nat) (y r : BitVec 32), k ≤ 32 ∧ vi = .int .i64 k ∧ vx = .int .u32 y.toNat ∧ vr = .int .u32 r.toNat ∧ revN (32 - k) y r = rev x) (fun _ _ i => 32 - (intOf i).toNat)
  case atStart => exact ⟨0, x, 0#32, by omega, rfl, rfl, rfl, rfl⟩
  case round =>
    obtain ⟨k, y, r, hk, rfl, rfl, rfl, hm⟩ := hrel
    have HM : Hid (revN (32 - k) y r = rev x) := hm
    clear hm
    have y1 := y.isLt
    have r1 := r.isLt
    by_cases hlt : k < 32
    · generalize hyi : (y.toNat : Int) = Y at *
      generalize hri : (r.toNat : Int) = R at *
      have Y0 : 0 ≤ Y := by omega
      have Y1 : Y ≤ 4294967295 := by omega
      have R0 : 0 ≤ R := by omega
      have R1 : R ≤ 4294967295 := by omega
      have HYI : Hid ((y.toNat : Int) = Y) := hyi
      have HRI : Hid ((r.toNat : Int) = R) := hri
      clear hyi hri y1 r1
      go_wp2
      go_round
      case rel =>
        rw [← HYI.out, ← HRI.out]
        refine ⟨k + 1, y >>> 1, (r <<< 1) ||| (y &&& 1#32), by omega, by go_num, ?_, ?_, ?_⟩
        · rw [shr_u32]
        · rw [shl_u32, and1_u32, or_u32]
        · have m := HM.out
          rw [show 32 - k = (32 - (k + 1)) + 1 from by omega] at m
          exact m
      case measure => simp [intOf]; omega
    · obtain rfl : k = 32 := by omega
      have HE : Hid (rev x = r) := HM.out.symm
      go_wp2
      go_ret
      exact ⟨by rw [HE.out]; rfl, rfl⟩

set_option maxHeartbeats 800000 in
theorem clmul_any (a b : BitVec 32) (w : World) : Calls Try.prog 18 #[.int .u32 a.toNat, .int .u32 b.toNat] w fun r w' => r = .returned (.int .u64 (clN a b 32).toNat) ∧ w = w' := by
  go_enter Try.func18, Try.ntmps18
  go_wp2
  go_loop [5, 6] (fun vp vi => ∃ (k : Nat) (p : BitVec 64), k ≤ 32 ∧ vi = .int .u64 k ∧ vp = .int .u64 p.toNat ∧ p = clN a b k) (fun _ i => 32 - (intOf i).toNat)
  case atStart => exact ⟨0, 0#64, by omega, rfl, rfl, rfl⟩
  case round =>
    obtain ⟨k, p, hk, rfl, rfl, hm⟩ := hrel
    have HM : Hid (p = clN a b k) := hm
    clear hm
    by_cases hlt : k < 32
    · have a1 := a.isLt
      have b1 := b.isLt
      have p1 := p.isLt
      have t := test_u32 b k
      have T : Hid ((bits .and .u32 ((b.toNat : Int) / (2 : Int) ^ k) 1 == 1) = b.getLsbD k) := t
      clear t
      go_wp2
      · rename_i ht
        rw [T.out] at ht
        go_round
        case rel =>
          refine ⟨k + 1, p ^^^ (a.setWidth 64 <<< k), by omega, by go_num, ?_, ?_⟩
          · rw [shl_word, xor_u64]
          · rw [HM.out, clN, if_pos ht]
        case measure => simp [intOf]; omega
      · rename_i ht
        rw [T.out] at ht
        go_round
        case rel =>
          refine ⟨k + 1, p, by omega, by go_num, rfl, ?_⟩
          rw [HM.out, clN, ht]
          simp
        case measure => simp [intOf]; omega
    · obtain rfl : k = 32 := by omega
      have HE : Hid (clN a b 32 = p) := HM.out.symm
      go_wp2
      go_ret
      exact ⟨by rw [HE.out]; rfl, rfl⟩

set_option maxHeartbeats 800000 in
theorem reduce_any (p : BitVec 64) (w : World) : Calls Try.prog 17 #[.int .u64 p.toNat] w fun r w' => r = .returned (.int .u32 (red p).toNat) ∧ w = w' := by
  go_enter Try.func17, Try.ntmps17
  go_wp2
  go_loop [0, 3] (fun vp vi => ∃ (n : Nat) (q : BitVec 64), n ≤ 32 ∧ vi = .int .u64 ((31 + n : Nat) : Int) ∧ vp = .int .u64 q.toNat ∧ redN n q = redN 32 p) (fun _ i => (intOf i - 31).toNat)
  case atStart => exact ⟨32, p, by omega, rfl, rfl, rfl⟩
  case round =>
    obtain ⟨n, q, hn, rfl, rfl, hm⟩ := hrel
    have HM : Hid (redN n q = redN 32 p) := hm
    clear hm
    have q1 := q.isLt
    by_cases hlt : 0 < n
    · have T : Hid ((bits .and .u64 ((q.toNat : Int) / (2 : Int) ^ (31 + n)) 1 == 1) = q.getLsbD (31 + n)) := test_u64 q (31 + n)
      obtain ⟨m, hm⟩ : ∃ m, n = m + 1 := ⟨n - 1, by omega⟩
      have HN : Hid (n = m + 1) := hm
      clear hm
      go_wp2
      · rename_i ht
        rw [T.out] at ht
        go_round
        case rel =>
          have hm := HN.out
          refine ⟨m, q ^^^ (4812730177#64 <<< (31 + n - 32)), by omega, by rw [show (31 : Int) + (n : Int) - 1 = ((31 + m : Nat) : Int) from by omega], ?_, ?_⟩
          · have e := shl_u64 4812730177#64 (31 + n - 32)
            rw [show ((4812730177#64 : BitVec 64).toNat : Int) = 4812730177 from rfl] at e
            rw [e, xor_u64]
          · rw [← HM.out]
            subst hm
            simp only [redN, proc]
            rw [show 32 + m = 31 + (m + 1) from by omega, if_pos ht]
        case measure => simp [intOf]; omega
      · rename_i ht
        rw [T.out] at ht
        go_round
        case rel =>
          have hm := HN.out
          refine ⟨m, q, by omega, by rw [show (31 : Int) + (n : Int) - 1 = ((31 + m : Nat) : Int) from by omega], rfl, ?_⟩
          rw [← HM.out]
          subst hm
          simp only [redN, proc]
          rw [show 32 + m = 31 + (m + 1) from by omega, if_neg (by rw [ht]; decide)]
        case measure => simp [intOf]; omega
    · obtain rfl : n = 0 := by omega
      have HE : Hid (((red p).toNat : Int) = (q.toNat : Int) % (4294967296 : Int)) := by
        have m : q = redN 32 p := HM.out
        unfold Hid red
        rw [← m, BitVec.toNat_setWidth, Int.natCast_emod]
        rfl
      go_wp2
      go_ret
      exact ⟨by rw [HE.out]; rfl, rfl⟩

theorem model_any (a b : BitVec 32) (w : World) : Calls Try.prog 8 #[.int .u32 a.toNat, .int .u32 b.toNat] w fun r w' => r = .returned (.int .u32 (model a b).toNat) ∧ w = w' := by
  go_enter Try.func8, Try.ntmps8
  go_wp2_with fail
  refine (rev_any a w).mono ?_
  rintro r w' ⟨rfl, rfl⟩
  go_wp2_with fail
  refine (rev_any b w).mono ?_
  rintro r w' ⟨rfl, rfl⟩
  go_wp2_with fail
  refine (clmul_any (rev a) (rev b) w).mono ?_
  rintro r w' ⟨rfl, rfl⟩
  go_wp2_with fail
  refine (reduce_any (clN (rev a) (rev b) 32) w).mono ?_
  rintro r w' ⟨rfl, rfl⟩
  go_wp2_with fail
  refine (rev_any (red (clN (rev a) (rev b) 32)) w).mono ?_
  rintro r w' ⟨rfl, rfl⟩
  go_wp2
  go_ret
  exact ⟨rfl, rfl⟩
end Go.Proofs.Qxb6604595a
