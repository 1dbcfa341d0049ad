/-
  THE PROOF OF 'Rows.FnHexNumberFormatsBackSaid': the frame as the kit's proof-skeleton.mjs writes it for this function; the walk filled in.
-/
import Derived.Test.Qxb6604509aRows
import Derived.WalkKit
import Derived.ProofKit
import Derived.OpenShut
import Derived.ShutString
import Derived.ChangeOld
import Derived.Below
import Derived.Test.Qxb6604509aHexBack
namespace Go.Proofs.Qxb6604509a.fnHexNumberFormatsBack
open Go.ChangeShapes Go.WideShapes Go.ChangeAt Go.RowKit
open Go.ChangeMaps (open_string shut_string)
set_option linter.unusedVariables false

theorem own : ownKnob Try.prog.godebug = none := by kernel_rfl
theorem laidOut : laidOutB Try.prog = true := by kernel_rfl

/-- WHAT THE WALK IS TOLD OF A SLICE OF INTEGERS THAT CAME IN: it is nil; or it leads to a row of 'cap' cells, the numbers 'zs' (the first 'len' are its elements, the rest its spare room), each fitting its kind. -/
def IsRow (k : IntKind) (w : World) (a : Option Addr) (len cap : Nat) (zs : List Int) : Prop :=
  (a = none ∧ len = 0 ∧ cap = 0 ∧ zs = []) ∨
  ∃ x, a = some x ∧ len ≤ cap ∧ cap ≤ maxLen ∧ zs.length = cap ∧ (∀ i, i < zs.length → w.cell? (x.add i) = some (.int k (zs.getD i 0))) ∧ ∀ n ∈ zs, (Lit.int k n).wf = true

/-- Too long, or a number below 0: true at once. -/
theorem walk_out (a : Option Addr) (n c : Nat) (m : Int) (w : World) (hn : n ≤ 9223372036854775807) (ho : 1048576 < n ∨ m < 0) :
    Calls Try.prog 6 #[.slice a n c, .int .i64 m] w fun r w' => r = .returned (.bool true) ∧ Below w.heap.size w w' := by
  by_cases h1 : n ≤ 1048576
  · have h2 : m < 0 := by omega
    clear ho
    go_enter Try.func6, Try.ntmps6
    go_wp2_with (go_at_call 15; refine (bytes15 _ _ _ _ _ hn).mono ?_; rintro r w' ⟨rfl, rfl⟩)
    go_ret
    exact ⟨rfl, Below.refl _ _⟩
  · clear ho
    go_enter Try.func6, Try.ntmps6
    go_wp2_with (go_at_call 15; refine (bytes15 _ _ _ _ _ hn).mono ?_; rintro r w' ⟨rfl, rfl⟩)
    go_ret
    exact ⟨rfl, Below.refl _ _⟩

set_option maxHeartbeats 800000 in
/-- More digits asked for than bytes lie there. -/
theorem walk_far (a : Option Addr) (n c m : Nat) (zs : Nat → Int) (w : World) (hn : n ≤ 1048576) (h : CameIn w a n c zs) (hm : n < m) :
    Calls Try.prog 6 #[.slice a n c, .int .i64 m] w fun r w' => r = .returned (.bool true) ∧ Below w.heap.size w w' := by
  have HI : Hid (CameIn w a n c zs) := h
  clear h
  have hpp : ¬ m ≤ n := by omega
  go_enter Try.func6, Try.ntmps6
  go_wp2_with (first | (go_at_call 15; refine (bytes15 _ _ _ _ _ (by omega)).mono ?_; rintro r w' ⟨rfl, rfl⟩) | (go_at_call 8; refine (clone_any _ _ _ _ _ hn HI.out).mono ?_; rintro r w1 ⟨a1, c1, rfl, hc1, hb1, hi1⟩) | (go_at_call 13; refine (zzHexNumber_out _ _ _ _ _ hm).mono ?_; rintro r w' ⟨rfl, rfl⟩))
  go_rounds 1
  go_ret
  exact ⟨rfl, hb1⟩

theorem back_in (zs : Nat → Int) (k i : Nat) (hg : good zs k = true) (hi : i < 8) (h : 8 ≤ k + i) : hexCh (hexV zs k % 4294967296 / 16 ^ (7 - i) % 16) = lowerC (zs (k + i - 8)) := by
  rw [u32_hexV zs k hg, digit_u32 _ i hi, digit_in zs k (7 - i) hg (by omega), show k - 1 - (7 - i) = k + i - 8 from by omega]
  exact ch_lower _ ((good_iff zs k).1 hg _ (by omega))

theorem back_over (zs : Nat → Int) (k i : Nat) (hg : good zs k = true) (hi : i < 8) (h : k + i < 8) : hexCh (hexV zs k % 4294967296 / 16 ^ (7 - i) % 16) = 48 := by
  rw [u32_hexV zs k hg, digit_u32 _ i hi, digit_over zs k (7 - i) hg (by omega)]
  rfl

set_option maxHeartbeats 1600000 in
theorem walk_in (a : Option Addr) (n c m : Nat) (zs : Nat → Int) (w : World) (hn : n ≤ 1048576) (h : CameIn w a n c zs) (hm : m ≤ n) (hb : ∀ i, i < n → 0 ≤ zs i ∧ zs i ≤ 255) :
    Calls Try.prog 6 #[.slice a n c, .int .i64 m] w fun r w' => r = .returned (.bool true) ∧ Below w.heap.size w w' := by
  have HI : Hid (CameIn w a n c zs) := h
  have HB : Hid (∀ i, i < n → 0 ≤ zs i ∧ zs i ≤ 255) := hb
  clear h hb
  go_enter Try.func6, Try.ntmps6
  go_wp2_with (first | (go_at_call 15; refine (bytes15 _ _ _ _ _ (by omega)).mono ?_; rintro r w' ⟨rfl, rfl⟩) | (go_at_call 8; refine (clone_any _ _ _ _ _ hn HI.out).mono ?_; rintro r w1 ⟨a1, c1, rfl, hc1, hb1, hi1⟩) | (go_at_call 13; refine (zzHexNumber_in _ _ _ _ zs _ hn hm hc1 HB.out hi1).mono ?_; rintro r w' ⟨rfl, rfl⟩))
  have H1 : Hid (IsBytes w1 a1 n zs) := hi1
  clear hi1
  go_loopw [7, 8] (fun wa i wr => ∃ k : Nat, k ≤ m ∧ i = .int .i64 k ∧ wa = .bool (good zs k) ∧ Below w1.heap.size w1 wr) (fun _ i _ => m - (intOf i).toNat)
  case atStart => exact ⟨0, by omega, rfl, by simp [good], Below.refl _ _⟩
  case round =>
    obtain ⟨k, hk, rfl, rfl, hb2⟩ := hrel
    by_cases hg : good zs k = true
    · by_cases hlt : k < m
      · obtain ⟨A, rfl, hA, hcell⟩ : ∃ A, a1 = some ⟨A, 0, none⟩ ∧ A < w1.heap.size ∧ ∀ i, i < n → w1.cell? ⟨A, i, none⟩ = some (.int .u8 (zs i)) := by
          rcases H1.out with h | h
          · omega
          · exact h
        have c1 : wr.cell? ⟨A, k, none⟩ = some (.int .u8 (zs k)) := by rw [hb2.cell (p := ⟨A, k, none⟩) hA]; exact hcell k (by omega)
        clear hcell
        have hkn : (k : Int) < (n : Int) := by omega
        by_cases hd0 : 0 ≤ hd (zs k)
        · have HG : Hid (good zs (k + 1) = true) := by simp [Hid, good, hg, hd0]
          go_wp2_with (go_at_call 14; refine (hexValue_any _ _).mono ?_; rintro r w' ⟨rfl, rfl⟩)
          go_roundw
          case rel => exact ⟨k + 1, by omega, by go_num, by rw [HG.out], hb2⟩
          case measure => simp [intOf]; omega
        · have HG : Hid (good zs (k + 1) = false) := by simp [Hid, good, hg]; omega
          go_wp2_with (go_at_call 14; refine (hexValue_any _ _).mono ?_; rintro r w' ⟨rfl, rfl⟩)
          go_roundw
          case rel => exact ⟨k + 1, by omega, by go_num, by rw [HG.out], hb2⟩
          case measure => simp [intOf]; omega
      · obtain rfl : k = m := by omega
        have HF1 : Hid (∀ i, i < 8 → 8 ≤ k + i → hexCh (hexV zs k % 4294967296 / 16 ^ (7 - i) % 16) = lowerC (zs (k + i - 8))) := fun i hi h => back_in zs k i hg hi h
        have HF2 : Hid (∀ i, i < 8 → k + i < 8 → hexCh (hexV zs k % 4294967296 / 16 ^ (7 - i) % 16) = 48) := fun i hi h => back_over zs k i hg hi h
        by_cases h8 : k ≤ 8
        · go_wp2_with fail
          refine (hex8_any _ wr (by omega) (by omega)).mono ?_
          rintro r w2 ⟨v, hv, rfl, hb3⟩
          have HV : Hid (∀ j, j < 8 → v j = hexCh (hexV zs k % 4294967296 / 16 ^ (7 - j) % 16)) := hv
          clear hv
          go_wp2
          obtain ⟨w3, hw3⟩ : ∃ w3, w3 = w2.alloc (.cells #[.int .u8 (v 0), .int .u8 (v 1), .int .u8 (v 2), .int .u8 (v 3), .int .u8 (v 4), .int .u8 (v 5), .int .u8 (v 6), .int .u8 (v 7)] 31) := ⟨_, rfl⟩
          rw [← hw3]
          have HO : Hid (∀ t, t < 8 → w3.cell? ⟨w2.heap.size, t, none⟩ = some (.int .u8 (v t))) := fun t ht => by
            rw [hw3, cell_of_row _ _ _ _ _ _ (heap_alloc_new _ _)]
            have ht8 : t = 0 ∨ t = 1 ∨ t = 2 ∨ t = 3 ∨ t = 4 ∨ t = 5 ∨ t = 6 ∨ t = 7 := by omega
            rcases ht8 with h | h | h | h | h | h | h | h <;> subst h <;> rfl
          have hb4 : Below w2.heap.size w2 w3 := by rw [hw3]; exact (Below.refl _ _).alloc (Nat.le_refl _) _
          have hs3 : w2.heap.size < w3.heap.size := by rw [hw3]; simp
          have hb13 : Below w1.heap.size w1 w3 := hb2.trans ((hb3.trans (hb4.mono hb3.size)).mono hb2.size)
          clear hw3
          go_loopw [11] (fun i wq => ∃ t : Nat, t ≤ 8 ∧ i = .int .i64 t ∧ Below w3.heap.size w3 wq) (fun i _ => 8 - (intOf i).toNat)
          case atStart => exact ⟨0, by omega, rfl, Below.refl _ _⟩
          case round =>
            obtain ⟨t, ht, rfl, hb5⟩ := hrel
            have hb15 : Below w1.heap.size w1 wr := hb13.trans (hb5.mono hb13.size)
            by_cases hlt : t < 8
            · have c5 : wr.cell? ⟨w2.heap.size, t, none⟩ = some (.int .u8 (v t)) := by rw [hb5.cell (p := ⟨w2.heap.size, t, none⟩) hs3]; exact HO.out t hlt
              have hv := HV.out t hlt
              by_cases hin : 8 ≤ k + t
              · rw [HF1.out t hlt hin] at hv
                obtain ⟨j, hj⟩ : ∃ j : Nat, j = k + t - 8 := ⟨_, rfl⟩
                rw [← hj] at hv
                have hji : (k : Int) - 8 + (t : Int) = (j : Int) := by omega
                have hjn : (j : Int) < (n : Int) := by omega
                have hge : (8 : Int) - (k : Int) ≤ (t : Int) := by omega
                have e5 : (v t != lowerC (zs j)) = false := by rw [hv]; simp
                obtain ⟨A, rfl, hA, hcell⟩ : ∃ A, a1 = some ⟨A, 0, none⟩ ∧ A < w1.heap.size ∧ ∀ i, i < n → w1.cell? ⟨A, i, none⟩ = some (.int .u8 (zs i)) := by
                  rcases H1.out with h | h
                  · omega
                  · exact h
                have c6 : wr.cell? ⟨A, j, none⟩ = some (.int .u8 (zs j)) := by rw [hb15.cell (p := ⟨A, j, none⟩) hA]; exact hcell j (by omega)
                obtain ⟨z0, z1⟩ := HB.out j (by omega)
                clear hcell hj hv
                go_wp2_with (go_at_call 17; refine (lowerHex_any _ _ z0 z1).mono ?_; rintro r w' ⟨rfl, rfl⟩)
                go_roundw
                case rel => exact ⟨t + 1, by omega, by go_num, hb5⟩
                case measure => simp [intOf]; omega
              · rw [HF2.out t hlt (by omega)] at hv
                have hge : ¬ (8 : Int) - (k : Int) ≤ (t : Int) := by omega
                have e5 : (v t != 48) = false := by rw [hv]; rfl
                clear hv
                go_wp2
                go_roundw
                case rel => exact ⟨t + 1, by omega, by go_num, hb5⟩
                case measure => simp [intOf]; omega
            · go_wp2
              go_ret
              exact ⟨rfl, hb1.trans (hb15.mono hb1.size)⟩
        · go_wp2_with fail
          refine (hex8_any _ wr (by omega) (by omega)).mono ?_
          rintro r w2 ⟨v, hv, rfl, hb3⟩
          have HV : Hid (∀ j, j < 8 → v j = hexCh (hexV zs k % 4294967296 / 16 ^ (7 - j) % 16)) := hv
          clear hv
          go_wp2
          obtain ⟨w3, hw3⟩ : ∃ w3, w3 = w2.alloc (.cells #[.int .u8 (v 0), .int .u8 (v 1), .int .u8 (v 2), .int .u8 (v 3), .int .u8 (v 4), .int .u8 (v 5), .int .u8 (v 6), .int .u8 (v 7)] 31) := ⟨_, rfl⟩
          rw [← hw3]
          have HO : Hid (∀ t, t < 8 → w3.cell? ⟨w2.heap.size, t, none⟩ = some (.int .u8 (v t))) := fun t ht => by
            rw [hw3, cell_of_row _ _ _ _ _ _ (heap_alloc_new _ _)]
            have ht8 : t = 0 ∨ t = 1 ∨ t = 2 ∨ t = 3 ∨ t = 4 ∨ t = 5 ∨ t = 6 ∨ t = 7 := by omega
            rcases ht8 with h | h | h | h | h | h | h | h <;> subst h <;> rfl
          have hb4 : Below w2.heap.size w2 w3 := by rw [hw3]; exact (Below.refl _ _).alloc (Nat.le_refl _) _
          have hs3 : w2.heap.size < w3.heap.size := by rw [hw3]; simp
          have hb13 : Below w1.heap.size w1 w3 := hb2.trans ((hb3.trans (hb4.mono hb3.size)).mono hb2.size)
          clear hw3
          go_loopw [11] (fun i wq => ∃ t : Nat, t ≤ 8 ∧ i = .int .i64 t ∧ Below w3.heap.size w3 wq) (fun i _ => 8 - (intOf i).toNat)
          case atStart => exact ⟨0, by omega, rfl, Below.refl _ _⟩
          case round =>
            obtain ⟨t, ht, rfl, hb5⟩ := hrel
            have hb15 : Below w1.heap.size w1 wr := hb13.trans (hb5.mono hb13.size)
            by_cases hlt : t < 8
            · have c5 : wr.cell? ⟨w2.heap.size, t, none⟩ = some (.int .u8 (v t)) := by rw [hb5.cell (p := ⟨w2.heap.size, t, none⟩) hs3]; exact HO.out t hlt
              have hv := HV.out t hlt
              by_cases hin : 8 ≤ k + t
              · rw [HF1.out t hlt hin] at hv
                obtain ⟨j, hj⟩ : ∃ j : Nat, j = k + t - 8 := ⟨_, rfl⟩
                rw [← hj] at hv
                have hji : (k : Int) - 8 + (t : Int) = (j : Int) := by omega
                have hjn : (j : Int) < (n : Int) := by omega
                have hge : (8 : Int) - (k : Int) ≤ (t : Int) := by omega
                have e5 : (v t != lowerC (zs j)) = false := by rw [hv]; simp
                obtain ⟨A, rfl, hA, hcell⟩ : ∃ A, a1 = some ⟨A, 0, none⟩ ∧ A < w1.heap.size ∧ ∀ i, i < n → w1.cell? ⟨A, i, none⟩ = some (.int .u8 (zs i)) := by
                  rcases H1.out with h | h
                  · omega
                  · exact h
                have c6 : wr.cell? ⟨A, j, none⟩ = some (.int .u8 (zs j)) := by rw [hb15.cell (p := ⟨A, j, none⟩) hA]; exact hcell j (by omega)
                obtain ⟨z0, z1⟩ := HB.out j (by omega)
                clear hcell hj hv
                go_wp2_with (go_at_call 17; refine (lowerHex_any _ _ z0 z1).mono ?_; rintro r w' ⟨rfl, rfl⟩)
                go_roundw
                case rel => exact ⟨t + 1, by omega, by go_num, hb5⟩
                case measure => simp [intOf]; omega
              · exact absurd (by omega) hin
            · go_wp2
              go_ret
              exact ⟨rfl, hb1.trans (hb15.mono hb1.size)⟩
    · have hg' : good zs k = false := by simpa using hg
      have e1 : good zs m = false := by
        cases e : good zs m
        · rfl
        · exact absurd ((good_iff zs k).2 fun j hj => (good_iff zs m).1 e j (by omega)) hg
      have e2 : hexV zs m = 0 := hexV_no e1
      clear hg
      go_wp2_with (go_at_call 14; refine (hexValue_any _ _).mono ?_; rintro r w' ⟨rfl, rfl⟩)
      go_ret
      exact ⟨rfl, hb1.trans (hb2.mono hb1.size)⟩

theorem walk (a0 : Option Addr) (len0 cap0 : Nat) (z0 : List Int) (a1 : Int) (w : World) (w0 : IsRow .u8 w a0 len0 cap0 z0) (w1 : (Lit.int .i64 a1).wf = true) :
    Calls Try.prog 6 #[.slice a0 len0 cap0, .int .i64 a1] w fun e w' => e = .returned (.bool true) ∧ Below w.heap.size w w' := by
  have hin : CameIn w a0 len0 cap0 (fun i => z0.getD i 0) ∧ len0 ≤ 9223372036854775807 ∧ ∀ i, i < len0 → 0 ≤ z0.getD i 0 ∧ z0.getD i 0 ≤ 255 := by
    rcases w0 with ⟨rfl, rfl, rfl, rfl⟩ | ⟨x, rfl, hl, hm, hz, hcell, hwz⟩
    · exact ⟨.inl ⟨rfl, rfl, rfl⟩, by omega, fun i hi => absurd hi (by omega)⟩
    · unfold maxLen at hm
      refine ⟨?_, by omega, fun i hi => ?_⟩
      rotate_left
      · have hi' : i < z0.length := by omega
        have h := wf_u8 (hwz z0[i] (List.getElem_mem hi'))
        simpa [List.getD_eq_getElem?_getD, List.getElem?_eq_getElem hi'] using h
      by_cases h0 : len0 = 0
      · exact .inr (.inl ⟨h0, x, rfl⟩)
      · obtain ⟨b, off, spot⟩ := x
        have hc0 := hcell 0 (by omega)
        have hspot : spot = none := by simpa [Addr.add] using World.cell?_spot hc0
        subst hspot
        have hcell' : ∀ i, i < len0 → w.cell? ⟨b, off + i, none⟩ = some (.int .u8 (z0.getD i 0)) := fun i hi => by rw [← add_plain]; exact hcell i (by omega)
        exact .inr (.inr ⟨b, off, rfl, block_lt_of_cell (hcell' 0 (by omega)), hcell'⟩)
  obtain ⟨hin, hmax, hbyte⟩ := hin
  have hp := wf_i64 w1
  by_cases ho : (1048576 < len0 ∨ a1 < 0)
  · exact walk_out _ _ _ _ _ hmax ho
  · obtain ⟨m, rfl⟩ : ∃ m : Nat, a1 = (m : Int) := ⟨a1.toNat, by omega⟩
    by_cases hlt : m ≤ len0
    · exact walk_in a0 len0 cap0 m _ w (by omega) hin hlt hbyte
    · exact walk_far a0 len0 cap0 m _ w (by omega) hin (by omega)

/-! ### THE ROW's STEP: WRITTEN OUT: LEAVE IT -/
set_option maxRecDepth 100000 in
theorem lifted (os : Os) (started : os.Started) (H : Type) (enc : TypeId × Value → H) :
    ReturnsInHanded {} Try.checked os 6 .any (Rows.fnHexNumberFormatsBackSpec.pre6 enc Try.prog Try.f6 Rows.fnHexNumberFormatsBackRow.domain false) (Rows.fnHexNumberFormatsBackSpec.post enc Try.prog Try.f6 false true false false) := by
  refine returnsInHanded_of_change (C := Try.checked) own started (by kernel_rfl) Try.func6
    (ChangeSpec.witness6 (enc := enc) (C := Try.checked) false ⟨#[], #[.slice none 0 0, .int .i64 0], []⟩ 8 (by kernel_rfl) (by kernel_rfl) (by kernel_rfl) (by kernel_rfl)) ?_
  intro W base args ds gs before hval0 hW hcnd _
  have hval : ∀ (j : Nat) t v, Try.f6.params[j]? = some t → args[j]? = some v → Value.okWide Try.prog W .any base t v := hval0
  have hW' := hW
  obtain ⟨p, q, hA0, hV, rfl, hfz, hnd⟩ := hW
  have hA : DataW.TrodAll enc Try.prog W 0 (fun _ => true) true Try.f6.params.toList args.toList ds p := hA0
  rw [Try.params6] at hA hval
  obtain ⟨v0, vs0, d0, ds0, p0, q0, hargs, rfl, rfl, h0, r0⟩ := trodAll_cons hA
  obtain ⟨v1, vs1, d1, ds1, p1, q1, rfl, rfl, rfl, h1, r1⟩ := trodAll_cons r0
  obtain ⟨rfl, rfl, rfl⟩ := trodAll_nil r1
  obtain rfl : args = #[v0, v1] := by cases args; simp_all
  obtain ⟨rfl, rfl⟩ := trodVars_none hV
  obtain ⟨a0, len0, cap0, rfl⟩ := okWide_slice Try.underlying22 (hval 0 22 v0 rfl rfl)
  have k0 := h0
  have lt0 : ∀ x ∈ p0, x.block < W.heap.size := by obtain ⟨m, hm⟩ := k0; exact DataW.trod_lt m _ _ _ hm
  obtain ⟨z0, w0⟩ : ∃ zs, IsRow .u8 W a0 len0 cap0 zs := by
    obtain ⟨fuel, hf⟩ := h0
    rcases open_ints Try.underlying22 Try.underlying5 (by kernel_rfl) hf with ⟨hcs, _⟩ | ⟨x, l, c, zs, hcs, _, hl, hm, hz, _, hcell, hwz⟩
    · simp [Value.cells] at hcs
      obtain ⟨rfl, rfl, rfl⟩ := hcs
      exact ⟨[], .inl ⟨rfl, rfl, rfl, rfl⟩⟩
    · simp [Value.cells] at hcs
      obtain ⟨rfl, rfl, rfl⟩ := hcs
      exact ⟨zs, .inr ⟨_, rfl, hl, hm, by simpa using hz, hcell, hwz⟩⟩
  obtain ⟨a1, rfl, rfl, rfl, w1⟩ := open_int Try.underlying3 (hval 1 3 v1 rfl rfl) h1
  clear hA0 hval0
  refine (walk a0 len0 cap0 z0 a1 W w0 w1).mono fun e W' ⟨he, bel⟩ => ?_
  subst he
  exact ⟨_, rfl, _, _, _, [], _, [], hW', trodAll_mk1 (shut_bool Try.underlying4 _), (trodAll_cons_mk (Below.trod laidOut (by kernel_rfl) (of_decide_eq_true (by kernel_rfl)) k0 bel lt0) (trodAll_cons_mk (shut_int Try.underlying3 w1) trodAll_mk0)), rfl, bel.frame _, fun h => by cases h⟩

theorem over : Rows.fnHexNumberFormatsBackRow.holds Try.pinned (OpenSpec.ofChange Rows.fnHexNumberFormatsBackSpec) :=
  OpenClaim.holds_of_wide 6 Try.f6 rfl rfl rfl rfl rfl rfl rfl ⟨rfl, rfl, rfl, rfl, rfl⟩ rfl rfl rfl rfl rfl (by kernel_rfl) Try.func6 (by kernel_rfl)
    (of_decide_eq_true (by kernel_rfl)) (by unfold Func.isWrapper; first | (rw [if_pos (by decide +kernel)]; kernel_rfl) | (rw [if_neg (by decide +kernel)]; exact ⟨rfl, rfl⟩))
    (fun os started H enc _ => lifted os started H enc)

/-- ████ THE STATEMENT ████ -/
theorem proved : Rows.FnHexNumberFormatsBackSaid := over
#print axioms proved
end Go.Proofs.Qxb6604509a.fnHexNumberFormatsBack
