/-
  THE ROADS BACK FROM THE NUMBER TO ITS DIGITS: zzHex8 (16), zzLowerHex (17), and the plain laws of a number's hexadecimal digits.
-/
import Derived.Test.Qxb6604509aHex
namespace Go.Proofs.Qxb6604509a
open Go.ChangeShapes Go.WideShapes Go.ChangeAt Go.RowKit

/-- The t-th digit from the right of x, as a lower-case letter. -/
def hexCh (d : Int) : Int := if d < 10 then 48 + d else 87 + d

theorem low_ch (k : Nat) (h : k < 16) : (((⟨#[48, 49, 50, 51, 52, 53, 54, 55, 56, 57, 97, 98, 99, 100, 101, 102]⟩ : ByteArray)[k]'h).toNat : Int) = hexCh k := by
  rw [low_at k h]
  unfold hexCh
  split <;> split <;> omega

theorem and15 (y : Int) (h0 : 0 ≤ y) (h1 : y ≤ 4294967295) : bits .and .u32 y 15 = y % 16 := by
  rw [u32_and y 15 h0 (by omega) (by decide) (by decide)]
  rw [show (15 : Int).toNat = 15 from rfl, nat_mask4]
  omega

theorem pow16_pos (t : Nat) : 0 < (16 : Int) ^ t := Int.pow_pos (by decide)

theorem div16 (x : Int) (h0 : 0 ≤ x) (t : Nat) : 0 ≤ x / 16 ^ t ∧ x / 16 ^ t ≤ x ∧ x / 16 ^ t / 16 = x / 16 ^ (t + 1) := by
  refine ⟨Int.ediv_nonneg h0 (Int.le_of_lt (pow16_pos t)), Int.ediv_le_self _ h0, ?_⟩
  rw [Int.ediv_ediv_of_nonneg (Int.le_of_lt (pow16_pos t)), Int.pow_succ]

set_option maxHeartbeats 1600000 in
theorem hex8_any (x : Int) (w : World) (h0 : 0 ≤ x) (h1 : x ≤ 4294967295) :
    Calls Try.prog 16 #[.int .u32 x] w fun r w' => ∃ v : Nat → Int, (∀ j, j < 8 → v j = hexCh (x / 16 ^ (7 - j) % 16)) ∧ r = .returned (.agg #[.int .u8 (v 0), .int .u8 (v 1), .int .u8 (v 2), .int .u8 (v 3), .int .u8 (v 4), .int .u8 (v 5), .int .u8 (v 6), .int .u8 (v 7)]) ∧ Below w.heap.size w w' := by
  go_enter Try.func16, Try.ntmps16
  go_wp2
  go_loopw [0, 4] (fun xx i wr => ∃ t : Nat, t ≤ 8 ∧ i = .int .i64 (7 - (t : Int)) ∧ xx = .int .u32 (x / 16 ^ t) ∧ Below w.heap.size w wr ∧ wr.heap.size = w.heap.size + 2 ∧ wr.heap[w.heap.size]? = some (.cells #[.int .u8 0, .int .u8 0, .int .u8 0, .int .u8 0, .int .u8 0, .int .u8 0, .int .u8 0, .int .u8 0] 31 (0, 0)) ∧ ∃ cs, wr.heap[w.heap.size + 1]? = some (.cells cs 31 (0, 0)) ∧ cs.size = 8 ∧ (∀ j, 8 - t ≤ j → j < 8 → cs[j]? = some (.int .u8 (hexCh (x / 16 ^ (7 - j) % 16))))) (fun _ i _ => (intOf i + 1).toNat)
  case atStart => exact ⟨0, by omega, rfl, by simp, ((Below.refl _ _).alloc (Nat.le_refl _) _).alloc (by simp) _, by simp, heap_alloc2_old _ _ _, _, heap_alloc2_new _ _ _, rfl, fun j h1 h2 => absurd h1 (by omega)⟩
  case round =>
    obtain ⟨t, ht, rfl, rfl, hbel, hsz, hold, cs, hcs, hcn, hcl⟩ := hrel
    obtain ⟨d0, d1, d2⟩ := div16 x h0 t
    obtain ⟨y, hy⟩ : ∃ y, y = x / 16 ^ t := ⟨_, rfl⟩
    have HO : Hid (wr.heap[w.heap.size]? = some (.cells #[.int .u8 0, .int .u8 0, .int .u8 0, .int .u8 0, .int .u8 0, .int .u8 0, .int .u8 0, .int .u8 0] 31 (0, 0))) := hold
    have HC : Hid (wr.heap[w.heap.size + 1]? = some (.cells cs 31 (0, 0))) := hcs
    have HL : Hid (∀ j, 8 - t ≤ j → j < 8 → cs[j]? = some (.int .u8 (hexCh (x / 16 ^ (7 - j) % 16)))) := hcl
    clear hold hcl
    rw [← hy] at d0 d1 d2 ⊢
    have HD : Hid (y / 16 = x / 16 ^ (t + 1)) := d2
    have HY : Hid (y = x / 16 ^ t) := hy
    clear d2 hy
    by_cases hlt : t < 8
    · obtain ⟨k, hk⟩ : ∃ k : Nat, (k : Int) = 7 - (t : Int) := ⟨7 - t, by omega⟩
      obtain ⟨e, he⟩ : ∃ e : Nat, (e : Int) = y % 16 := ⟨(y % 16).toNat, by omega⟩
      have b1 : bits .and .u32 y 15 = (e : Int) := by rw [and15 y d0 (by omega), he]
      have he16 : e < 16 := by omega
      have hk8 : k < 8 := by omega
      obtain ⟨old, c2⟩ : ∃ old, wr.cell? ⟨w.heap.size + 1, k, none⟩ = some old := ⟨cs[k], by rw [cell_of_row wr _ _ cs 31 (0, 0) hcs]; simp [hcn, hk8]⟩
      have c3 : wr.frozen? ⟨w.heap.size + 1, k, none⟩ = false := by simp [World.frozen?, hcs]
      have HE : Hid ((e : Int) = y % 16) := he
      have HK : Hid ((k : Int) = 7 - (t : Int)) := hk
      rw [← hk]
      have hkk : (k : Int) < 8 := by omega
      clear he hk hcs
      go_wp2
      go_roundw
      case rel =>
        have hk := HK.out
        have he := HE.out
        refine ⟨t + 1, by omega, by rw [show (k : Int) - 1 = 7 - ((t + 1 : Nat) : Int) from by omega], by rw [HD.out], hbel.setCell (by simp) _, by simp [hsz], ?_, _, heap_setCell_same wr _ _ cs 31 _ HC.out, by simp [hcn], ?_⟩
        · rw [heap_setCell_other _ _ _ _ (by simp)]; exact HO.out
        · intro j hj1 hj2
          by_cases x1 : j = k
          · subst x1
            rw [Array.getElem?_setIfInBounds_self_of_lt (by omega), low_ch e he16, he, HY.out, show 7 - j = t from by omega]
          · rw [Array.getElem?_setIfInBounds_ne (by omega)]
            exact HL.out j (by omega) hj2
      case measure => simp [intOf]
    · obtain rfl : t = 8 := by omega
      obtain ⟨v, hv⟩ : ∃ v : Nat → Int, v = fun j => hexCh (x / 16 ^ (7 - j) % 16) := ⟨_, rfl⟩
      have HV : Hid (v = fun j => hexCh (x / 16 ^ (7 - j) % 16)) := hv
      have CL : Hid (∀ j, j < 8 → wr.cell? ⟨w.heap.size + 1, j, none⟩ = some (.int .u8 (v j))) := fun j hj => by
        rw [cell_of_row wr _ _ cs 31 (0, 0) hcs, hv]; exact HL.out j (by omega) hj
      clear hv hcs
      have k0 : wr.cell? ⟨w.heap.size + 1, 0, none⟩ = some (.int .u8 (v 0)) := CL.out 0 (by omega)
      have o0 : wr.cell? ⟨w.heap.size, 0, none⟩ = some (.int .u8 0) := by rw [cell_of_row wr _ _ _ 31 (0, 0) HO.out]; rfl
      have f0 : wr.frozen? ⟨w.heap.size, 0, none⟩ = false := by simp [World.frozen?, HO.out]
      have k1 : wr.cell? ⟨w.heap.size + 1, 1, none⟩ = some (.int .u8 (v 1)) := CL.out 1 (by omega)
      have o1 : wr.cell? ⟨w.heap.size, 1, none⟩ = some (.int .u8 0) := by rw [cell_of_row wr _ _ _ 31 (0, 0) HO.out]; rfl
      have f1 : wr.frozen? ⟨w.heap.size, 1, none⟩ = false := by simp [World.frozen?, HO.out]
      have k2 : wr.cell? ⟨w.heap.size + 1, 2, none⟩ = some (.int .u8 (v 2)) := CL.out 2 (by omega)
      have o2 : wr.cell? ⟨w.heap.size, 2, none⟩ = some (.int .u8 0) := by rw [cell_of_row wr _ _ _ 31 (0, 0) HO.out]; rfl
      have f2 : wr.frozen? ⟨w.heap.size, 2, none⟩ = false := by simp [World.frozen?, HO.out]
      have k3 : wr.cell? ⟨w.heap.size + 1, 3, none⟩ = some (.int .u8 (v 3)) := CL.out 3 (by omega)
      have o3 : wr.cell? ⟨w.heap.size, 3, none⟩ = some (.int .u8 0) := by rw [cell_of_row wr _ _ _ 31 (0, 0) HO.out]; rfl
      have f3 : wr.frozen? ⟨w.heap.size, 3, none⟩ = false := by simp [World.frozen?, HO.out]
      have k4 : wr.cell? ⟨w.heap.size + 1, 4, none⟩ = some (.int .u8 (v 4)) := CL.out 4 (by omega)
      have o4 : wr.cell? ⟨w.heap.size, 4, none⟩ = some (.int .u8 0) := by rw [cell_of_row wr _ _ _ 31 (0, 0) HO.out]; rfl
      have f4 : wr.frozen? ⟨w.heap.size, 4, none⟩ = false := by simp [World.frozen?, HO.out]
      have k5 : wr.cell? ⟨w.heap.size + 1, 5, none⟩ = some (.int .u8 (v 5)) := CL.out 5 (by omega)
      have o5 : wr.cell? ⟨w.heap.size, 5, none⟩ = some (.int .u8 0) := by rw [cell_of_row wr _ _ _ 31 (0, 0) HO.out]; rfl
      have f5 : wr.frozen? ⟨w.heap.size, 5, none⟩ = false := by simp [World.frozen?, HO.out]
      have k6 : wr.cell? ⟨w.heap.size + 1, 6, none⟩ = some (.int .u8 (v 6)) := CL.out 6 (by omega)
      have o6 : wr.cell? ⟨w.heap.size, 6, none⟩ = some (.int .u8 0) := by rw [cell_of_row wr _ _ _ 31 (0, 0) HO.out]; rfl
      have f6 : wr.frozen? ⟨w.heap.size, 6, none⟩ = false := by simp [World.frozen?, HO.out]
      have k7 : wr.cell? ⟨w.heap.size + 1, 7, none⟩ = some (.int .u8 (v 7)) := CL.out 7 (by omega)
      have o7 : wr.cell? ⟨w.heap.size, 7, none⟩ = some (.int .u8 0) := by rw [cell_of_row wr _ _ _ 31 (0, 0) HO.out]; rfl
      have f7 : wr.frozen? ⟨w.heap.size, 7, none⟩ = false := by simp [World.frozen?, HO.out]
      go_wp2
      refine bodyPost_ret (v := .agg #[.int .u8 (v 0), .int .u8 (v 1), .int .u8 (v 2), .int .u8 (v 3), .int .u8 (v 4), .int .u8 (v 5), .int .u8 (v 6), .int .u8 (v 7)]) ?_ rfl ⟨v, fun j _ => by rw [HV.out], rfl, ?_⟩
      · simp [results, Try.results16, go_sem, *]
      · exact (((((((hbel.setCell (Nat.le_refl _) _).setCell (Nat.le_refl _) _).setCell (Nat.le_refl _) _).setCell (Nat.le_refl _) _).setCell (Nat.le_refl _) _).setCell (Nat.le_refl _) _).setCell (Nat.le_refl _) _).setCell (Nat.le_refl _) _

/-- A letter, lower-cased where it is a digit's capital. -/
def lowerC (c : Int) : Int := if 65 ≤ c ∧ c ≤ 70 then c + 32 else c

set_option maxHeartbeats 400000 in
theorem lowerHex_any (c : Int) (w : World) (h0 : 0 ≤ c) (h1 : c ≤ 255) : Calls Try.prog 17 #[.int .u8 c] w fun r w' => r = .returned (.int .u8 (lowerC c)) ∧ w = w' := by
  by_cases a : 65 ≤ c ∧ c ≤ 70
  · have HE : Hid (lowerC c = c + 32) := if_pos a
    obtain ⟨a1, a2⟩ := a
    go_enter Try.func17, Try.ntmps17
    go_wp2
    go_ret
    exact ⟨by rw [HE.out]; rfl, rfl⟩
  · have HE : Hid (lowerC c = c) := if_neg a
    by_cases b : 65 ≤ c
    · have d : ¬ c ≤ 70 := by omega
      clear a
      go_enter Try.func17, Try.ntmps17
      go_wp2
      go_ret
      exact ⟨by rw [HE.out]; rfl, rfl⟩
    · clear a
      go_enter Try.func17, Try.ntmps17
      go_wp2
      go_ret
      exact ⟨by rw [HE.out]; rfl, rfl⟩

theorem ch_lower (c : Int) (h : 0 ≤ hd c) : hexCh (hd c) = lowerC c := by
  unfold hd at h ⊢
  unfold hexCh lowerC
  repeat' split
  all_goals first | omega | (simp_all; done) | (simp_all; omega)

theorem hexNum_div (zs : Nat → Int) (n : Nat) (hg : good zs n = true) : ∀ t, t ≤ n → hexNum zs n / 16 ^ t = hexNum zs (n - t)
  | 0, _ => by simp
  | t + 1, h => by
    rw [Int.pow_succ, ← Int.ediv_ediv_of_nonneg (Int.le_of_lt (pow16_pos t)), hexNum_div zs n hg t (by omega)]
    rw [show n - t = (n - (t + 1)) + 1 from by omega]
    simp only [hexNum]
    have a := (good_iff zs n).1 hg (n - (t + 1)) (by omega)
    have b := (hd_range (zs (n - (t + 1)))).2
    omega

theorem digit_in (zs : Nat → Int) (n t : Nat) (hg : good zs n = true) (h : t < n) : hexNum zs n / 16 ^ t % 16 = hd (zs (n - 1 - t)) := by
  rw [hexNum_div zs n hg t (by omega), show n - t = (n - 1 - t) + 1 from by omega]
  simp only [hexNum]
  have a := (good_iff zs n).1 hg (n - 1 - t) (by omega)
  have b := (hd_range (zs (n - 1 - t))).2
  omega

theorem digit_over (zs : Nat → Int) (n t : Nat) (hg : good zs n = true) (h : n ≤ t) : hexNum zs n / 16 ^ t % 16 = 0 := by
  rw [show t = n + (t - n) from by omega, Int.pow_add, ← Int.ediv_ediv_of_nonneg (Int.le_of_lt (pow16_pos n)), hexNum_div zs n hg n (Nat.le_refl _)]
  simp [hexNum]

theorem digit_u32 (x : Int) (j : Nat) (h : j < 8) : x % 4294967296 / 16 ^ (7 - j) % 16 = x / 16 ^ (7 - j) % 16 := by
  have h8 : j = 0 ∨ j = 1 ∨ j = 2 ∨ j = 3 ∨ j = 4 ∨ j = 5 ∨ j = 6 ∨ j = 7 := by omega
  rcases h8 with h | h | h | h | h | h | h | h <;> subst h <;> simp <;> omega

theorem u32_hexV (zs : Nat → Int) (n : Nat) (hg : good zs n = true) : hexV zs n % 4294967296 = hexNum zs n % 4294967296 := by
  rw [hexV_yes hg]
  simp only [IntKind.wrap_i32]
  omega
end Go.Proofs.Qxb6604509a
