/-
  THE HEXADECIMAL ROADS OF THIS SEAT: hexDigit (20), hexNumber (19, 13), zzHexValue (14), and the plain laws of the number that digits write.
-/
import Derived.Test.Qxb6604509aSpace
namespace Go.Proofs.Qxb6604509a
open Go.ChangeShapes Go.WideShapes Go.ChangeAt Go.RowKit

/-- The value of a hexadecimal digit; -1 where it is none. -/
def hd (c : Int) : Int := if 48 ≤ c ∧ c ≤ 57 then c - 48 else if 97 ≤ c ∧ c ≤ 102 then c - 87 else if 65 ≤ c ∧ c ≤ 70 then c - 55 else -1

theorem hd_range (c : Int) : -1 ≤ hd c ∧ hd c ≤ 15 := by
  unfold hd
  split
  · omega
  · split
    · omega
    · split <;> omega

set_option maxHeartbeats 400000 in
theorem hexDigit_yes (c : Int) (w : World) (h0 : 0 ≤ c) (h1 : c ≤ 255) (hy : 0 ≤ hd c) : Calls Try.prog 20 #[.int .u8 c] w fun r w' => r = .returned (.tuple #[.int .u8 (hd c), .bool true]) ∧ w = w' := by
  by_cases a : 48 ≤ c ∧ c ≤ 57
  · have e : hd c = c - 48 := by unfold hd; rw [if_pos a]
    rw [e]
    clear e hy
    obtain ⟨a1, a2⟩ := a
    go_enter Try.func20, Try.ntmps20
    go_wp2
    go_ret2
    exact ⟨rfl, rfl⟩
  · by_cases b : 97 ≤ c ∧ c ≤ 102
    · have e : hd c = c - 87 := by unfold hd; rw [if_neg a, if_pos b]
      rw [e]
      clear e hy a
      obtain ⟨a1, a2⟩ := b
      have x1 : ¬ c ≤ 57 := by omega
      have x2 : 48 ≤ c := by omega
      go_enter Try.func20, Try.ntmps20
      go_wp2
      go_ret2
      exact ⟨by simp; omega, rfl⟩
    · by_cases d : 65 ≤ c ∧ c ≤ 70
      · have e : hd c = c - 55 := by unfold hd; rw [if_neg a, if_neg b, if_pos d]
        rw [e]
        clear e hy a b
        obtain ⟨a1, a2⟩ := d
        have x1 : ¬ c ≤ 57 := by omega
        have x2 : 48 ≤ c := by omega
        have x3 : ¬ 97 ≤ c := by omega
        go_enter Try.func20, Try.ntmps20
        go_wp2
        go_ret2
        exact ⟨by simp; omega, rfl⟩
      · unfold hd at hy; rw [if_neg a, if_neg b, if_neg d] at hy; omega

set_option maxHeartbeats 400000 in
theorem hexDigit_no (c : Int) (w : World) (h0 : 0 ≤ c) (h1 : c ≤ 255) (hy : hd c < 0) : Calls Try.prog 20 #[.int .u8 c] w fun r w' => r = .returned (.tuple #[.int .u8 0, .bool false]) ∧ w = w' := by
  have a : ¬ (48 ≤ c ∧ c ≤ 57) := fun a => by unfold hd at hy; rw [if_pos a] at hy; omega
  have b : ¬ (97 ≤ c ∧ c ≤ 102) := fun b => by unfold hd at hy; rw [if_neg a, if_pos b] at hy; omega
  have d : ¬ (65 ≤ c ∧ c ≤ 70) := fun d => by unfold hd at hy; rw [if_neg a, if_neg b, if_pos d] at hy; omega
  clear hy
  go_enter Try.func20, Try.ntmps20
  go_wp2
  all_goals first
    | (go_ret2; exact ⟨rfl, rfl⟩)
    | (exfalso; omega)

theorem low_fin : ∀ k : Fin 16, ((⟨#[48, 49, 50, 51, 52, 53, 54, 55, 56, 57, 97, 98, 99, 100, 101, 102]⟩ : ByteArray)[k.val]'(k.isLt)).toNat = if k.val < 10 then 48 + k.val else 87 + k.val := by decide
theorem up_fin : ∀ k : Fin 16, ((⟨#[48, 49, 50, 51, 52, 53, 54, 55, 56, 57, 65, 66, 67, 68, 69, 70]⟩ : ByteArray)[k.val]'(k.isLt)).toNat = if k.val < 10 then 48 + k.val else 55 + k.val := by decide
theorem low_at (k : Nat) (h : k < 16) : ((⟨#[48, 49, 50, 51, 52, 53, 54, 55, 56, 57, 97, 98, 99, 100, 101, 102]⟩ : ByteArray)[k]'h).toNat = if k < 10 then 48 + k else 87 + k := low_fin ⟨k, h⟩
theorem up_at (k : Nat) (h : k < 16) : ((⟨#[48, 49, 50, 51, 52, 53, 54, 55, 56, 57, 65, 66, 67, 68, 69, 70]⟩ : ByteArray)[k]'h).toNat = if k < 10 then 48 + k else 55 + k := up_fin ⟨k, h⟩

theorem hd_low (c : Int) (k : Nat) (h : k < 16) (e : (((⟨#[48, 49, 50, 51, 52, 53, 54, 55, 56, 57, 97, 98, 99, 100, 101, 102]⟩ : ByteArray)[k]'h).toNat : Int) = c) : hd c = k := by
  rw [low_at k h] at e
  subst e
  unfold hd
  split <;> (repeat' split) <;> omega

theorem hd_up (c : Int) (k : Nat) (h : k < 16) (e : (((⟨#[48, 49, 50, 51, 52, 53, 54, 55, 56, 57, 65, 66, 67, 68, 69, 70]⟩ : ByteArray)[k]'h).toNat : Int) = c) : hd c = k := by
  rw [up_at k h] at e
  subst e
  unfold hd
  split <;> (repeat' split) <;> omega

theorem hd_back (c : Int) (k : Nat) (h : k < 16) (e : hd c = k) : (((⟨#[48, 49, 50, 51, 52, 53, 54, 55, 56, 57, 97, 98, 99, 100, 101, 102]⟩ : ByteArray)[k]'h).toNat : Int) = c ∨ (((⟨#[48, 49, 50, 51, 52, 53, 54, 55, 56, 57, 65, 66, 67, 68, 69, 70]⟩ : ByteArray)[k]'h).toNat : Int) = c := by
  rw [low_at k h, up_at k h]
  unfold hd at e
  revert e
  split
  · intro e; left; split <;> omega
  · split
    · intro e; left; split <;> omega
    · split
      · intro e; right; split <;> omega
      · intro e; omega

set_option maxHeartbeats 400000 in
theorem hexValue_any (c : Int) (w : World) : Calls Try.prog 14 #[.int .u8 c] w fun r w' => r = .returned (.int .i64 (hd c)) ∧ w = w' := by
  go_enter Try.func14, Try.ntmps14
  go_wp2
  go_loop [3] (fun i => ∃ k : Nat, k ≤ 16 ∧ i = .int .i64 k ∧ ∀ j : Nat, j < k → hd c ≠ j) (fun i => 16 - (intOf i).toNat)
  case atStart => exact ⟨0, by omega, rfl, fun j h => absurd h (by omega)⟩
  case round =>
    obtain ⟨k, hk, rfl, hno⟩ := hrel
    have HN : Hid (∀ j : Nat, j < k → hd c ≠ j) := hno
    clear hno
    by_cases hlt : k < 16
    · go_wp2
      · go_ret
        exact ⟨by simp [hd_low c k hlt ‹_›], rfl⟩
      · go_ret
        rename_i hx _
        have e : hd c = k := by
          rcases hx with hx | hx
          · exact hd_low c k hlt (by simpa using hx)
          · exact hd_up c k hlt (by simpa using hx)
        exact ⟨by simp [e], rfl⟩
      · rename_i hx
        go_round
        case rel =>
          refine ⟨k + 1, by omega, by go_num, fun j hj e => ?_⟩
          by_cases x : j = k
          · subst x
            rcases hd_back c j hlt e with h | h
            · simp [h] at hx
            · simp [h] at hx
          · exact HN.out j (by omega) e
        case measure => simp [intOf]; omega
    · have e : hd c = -1 := by
        have r := hd_range c
        by_cases p : 0 ≤ hd c
        · exact absurd (by omega : hd c = ((hd c).toNat : Int)) (HN.out (hd c).toNat (by omega))
        · omega
      go_wp2
      go_ret
      exact ⟨by simp, rfl⟩
theorem or_i32 (x d : Int) (hx : x % 16 = 0) (h0 : 0 ≤ d) (h1 : d ≤ 15) : bits .or .i32 x d = IntKind.i32.wrap (x + d) := by
  have hX : (x % 4294967296).toNat % 2 ^ 4 = 0 := by omega
  have hD : (d % 4294967296).toNat < 2 ^ 4 := by omega
  have hj := nat_join 4 _ _ hX hD
  have e : ∀ y : Int, (BitVec.ofInt 32 y).toNat = (y % 4294967296).toNat := fun y => by rw [BitVec.toNat_ofInt]; rfl
  show IntKind.i32.wrap (((BitVec.ofInt 32 x ||| BitVec.ofInt 32 d).toNat : Nat) : Int) = _
  rw [BitVec.toNat_or, e, e, hj]
  simp only [IntKind.wrap_i32]
  omega
theorem step_i32 (s d : Int) (h0 : 0 ≤ d) (h1 : d ≤ 15) : bits .or .i32 (wrap32 (wrap32 s * 16)) d = IntKind.i32.wrap (s * 16 + d) := by
  rw [or_i32 _ _ (by unfold wrap32; omega) h0 h1]
  simp only [IntKind.wrap_i32]
  unfold wrap32
  omega

/-- The first k digits as a number, the first one the weightiest. -/
def hexNum (zs : Nat → Int) : Nat → Int
  | 0 => 0
  | k + 1 => hexNum zs k * 16 + hd (zs k)

/-- Are the first k bytes digits? -/
def good (zs : Nat → Int) : Nat → Bool
  | 0 => true
  | k + 1 => good zs k && decide (0 ≤ hd (zs k))

theorem good_iff (zs : Nat → Int) : ∀ k, good zs k = true ↔ ∀ j, j < k → 0 ≤ hd (zs j)
  | 0 => by simp [good]
  | k + 1 => by
    simp only [good, Bool.and_eq_true, decide_eq_true_eq, good_iff zs k]
    constructor
    · rintro ⟨a, b⟩ j hj
      by_cases x : j = k
      · subst x; exact b
      · exact a j (by omega)
    · intro h
      exact ⟨fun j hj => h j (by omega), h k (by omega)⟩


theorem good_no {zs : Nat → Int} {m k : Nat} (h : k < m) (hk : hd (zs k) < 0) : good zs m = false := by
  cases e : good zs m
  · rfl
  · have := (good_iff zs m).1 e k h; omega

/-- What 'hexNumber' gives for m bytes that lie there. -/
def hexV (zs : Nat → Int) (m : Nat) : Int := if good zs m = true then IntKind.i32.wrap (hexNum zs m) else 0
theorem hexV_yes {zs : Nat → Int} {m : Nat} (h : good zs m = true) : hexV zs m = IntKind.i32.wrap (hexNum zs m) := if_pos h
theorem hexV_no {zs : Nat → Int} {m : Nat} (h : good zs m = false) : hexV zs m = 0 := if_neg (by simp [h])

set_option maxHeartbeats 800000 in
theorem hexNumber_in (a : Option Addr) (n c m : Nat) (zs : Nat → Int) (w : World) (hn : n ≤ 1048576) (hm : m ≤ n) (hc : n ≤ c) (hb : ∀ i, i < n → 0 ≤ zs i ∧ zs i ≤ 255) (hi : IsBytes w a n zs) :
    Calls Try.prog 19 #[.slice a n c, .int .i64 m] w fun r w' => r = .returned (.tuple #[.int .i32 (hexV zs m), .bool (good zs m)]) ∧ w = w' := by
  have H : Hid (IsBytes w a n zs) := hi
  have HB : Hid (∀ i, i < n → 0 ≤ zs i ∧ zs i ≤ 255) := hb
  clear hi hb
  have h1 : ¬ (n : Int) < (m : Int) := by omega
  have h2 : m ≤ c := by omega
  go_enter Try.func19, Try.ntmps19
  go_wp2
  go_loop [6, 19] (fun v i => ∃ k : Nat, k ≤ m ∧ i = .int .i64 k ∧ good zs k = true ∧ v = .int .i32 (IntKind.i32.wrap (hexNum zs k))) (fun _ i => m - (intOf i).toNat)
  case atStart => exact ⟨0, by omega, rfl, rfl, rfl⟩
  case round =>
    obtain ⟨k, hk, rfl, hg, rfl⟩ := hrel
    have HG : Hid (good zs k = true) := hg
    clear hg
    by_cases hlt : k < m
    · obtain ⟨A, rfl, hA, hcell⟩ : ∃ A, a = some ⟨A, 0, none⟩ ∧ A < w.heap.size ∧ ∀ i, i < n → w.cell? ⟨A, i, none⟩ = some (.int .u8 (zs i)) := by
        rcases H.out with h | h
        · omega
        · exact h
      have c1 : w.cell? ⟨A, k, none⟩ = some (.int .u8 (zs k)) := hcell k (by omega)
      clear hcell
      obtain ⟨b0, b1⟩ := HB.out k (by omega)
      by_cases hd0 : 0 ≤ hd (zs k)
      · obtain ⟨r0, r1⟩ := hd_range (zs k)
        go_wp2_with (go_at_call 20; refine (hexDigit_yes _ _ b0 b1 hd0).mono ?_; rintro r w' ⟨rfl, rfl⟩)
        go_round
        case rel => exact ⟨k + 1, by omega, by go_num, by simp [good, HG.out, hd0], by rw [step_i32 _ _ hd0 r1]; rfl⟩
        case measure => simp [intOf]; omega
      · have hno := good_no hlt (by omega : hd (zs k) < 0)
        have HE : Hid (hexV zs m = 0 ∧ good zs m = false) := ⟨hexV_no hno, hno⟩
        clear hno
        go_wp2_with (go_at_call 20; refine (hexDigit_no _ _ b0 b1 (by omega)).mono ?_; rintro r w' ⟨rfl, rfl⟩)
        go_ret2
        exact ⟨by rw [HE.out.1, HE.out.2]; rfl, rfl⟩
    · obtain rfl : k = m := by omega
      have HE : Hid (hexV zs k = IntKind.i32.wrap (hexNum zs k)) := hexV_yes HG.out
      go_wp2
      go_ret2
      exact ⟨by rw [HE.out, HG.out]; rfl, rfl⟩

theorem hexNumber_out (a : Option Addr) (n c m : Nat) (w : World) (hm : n < m) :
    Calls Try.prog 19 #[.slice a n c, .int .i64 m] w fun r w' => r = .returned (.tuple #[.int .i32 0, .bool false]) ∧ w = w' := by
  have h1 : (n : Int) < (m : Int) := by omega
  go_enter Try.func19, Try.ntmps19
  go_wp2
  go_ret2
  exact ⟨rfl, rfl⟩

theorem zzHexNumber_in (a : Option Addr) (n c m : Nat) (zs : Nat → Int) (w : World) (hn : n ≤ 1048576) (hm : m ≤ n) (hc : n ≤ c) (hb : ∀ i, i < n → 0 ≤ zs i ∧ zs i ≤ 255) (hi : IsBytes w a n zs) :
    Calls Try.prog 13 #[.slice a n c, .int .i64 m] w fun r w' => r = .returned (.tuple #[.int .i32 (hexV zs m), .bool (good zs m)]) ∧ w = w' := by
  have H : Hid (IsBytes w a n zs) := hi
  have HB : Hid (∀ i, i < n → 0 ≤ zs i ∧ zs i ≤ 255) := hb
  clear hi hb
  go_enter Try.func13, Try.ntmps13
  go_wp2_with (go_at_call 19; refine (hexNumber_in a n c m zs w hn hm hc HB.out H.out).mono ?_; rintro r w' ⟨rfl, rfl⟩)
  go_ret2
  exact ⟨rfl, rfl⟩

theorem zzHexNumber_out (a : Option Addr) (n c m : Nat) (w : World) (hm : n < m) :
    Calls Try.prog 13 #[.slice a n c, .int .i64 m] w fun r w' => r = .returned (.tuple #[.int .i32 0, .bool false]) ∧ w = w' := by
  go_enter Try.func13, Try.ntmps13
  go_wp2_with (go_at_call 19; refine (hexNumber_out a n c m w hm).mono ?_; rintro r w' ⟨rfl, rfl⟩)
  go_ret2
  exact ⟨rfl, rfl⟩

/-- The last d of n digits, each at its place's weight. -/
def tailSum (zs : Nat → Int) (n : Nat) : Nat → Int
  | 0 => 0
  | d + 1 => tailSum zs n d + hd (zs (n - 1 - d)) * 16 ^ d

theorem hexNum_tail (zs : Nat → Int) (n : Nat) : ∀ d, d ≤ n → hexNum zs n = hexNum zs (n - d) * 16 ^ d + tailSum zs n d
  | 0, _ => by simp [tailSum]
  | d + 1, h => by
    have e : n - d = (n - (d + 1)) + 1 := by omega
    rw [hexNum_tail zs n d (by omega), e]
    simp only [hexNum, tailSum]
    rw [show n - 1 - d = n - (d + 1) from by omega, Int.pow_succ]
    generalize hexNum zs (n - (d + 1)) = x
    generalize hd (zs (n - (d + 1))) = y
    generalize tailSum zs n d = t
    generalize (16 : Int) ^ d = p
    rw [Int.add_mul, Int.mul_assoc, Int.mul_comm 16 p]
    omega

theorem hexNum_all (zs : Nat → Int) (n : Nat) : hexNum zs n = tailSum zs n n := by
  have := hexNum_tail zs n n (Nat.le_refl _)
  simpa [hexNum] using this

theorem acc_step (a d p : Int) : IntKind.u32.wrap (IntKind.u32.wrap a + IntKind.u32.wrap (d * IntKind.u32.wrap p)) = IntKind.u32.wrap (a + d * p) := by
  simp only [IntKind.wrap_u32]
  rw [Int.add_emod a (d * p)]
  rw [Int.mul_emod d p]
  rw [Int.mul_emod d (p % 4294967296)]
  simp [Int.emod_emod_of_dvd]

theorem place_step (p : Int) : IntKind.u32.wrap (IntKind.u32.wrap p * 16) = IntKind.u32.wrap (p * 16) := by
  simp only [IntKind.wrap_u32]
  omega

theorem i32_of_u32 (x : Int) : IntKind.i32.wrap (IntKind.u32.wrap x) = IntKind.i32.wrap x := by
  simp only [IntKind.wrap_u32, IntKind.wrap_i32]
  omega

end Go.Proofs.Qxb6604509a
