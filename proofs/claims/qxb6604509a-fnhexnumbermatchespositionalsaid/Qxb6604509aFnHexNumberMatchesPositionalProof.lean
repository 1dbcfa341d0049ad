/-
  THE PROOF OF 'Rows.FnHexNumberMatchesPositionalSaid': the frame as the kit's proof-skeleton.mjs writes it for this function; the walk filled in.
-/
import Derived.Test.Qxb6604509aRows
import Derived.WalkKit
import Derived.ProofKit
import Derived.OpenShut
import Derived.ShutString
import Derived.ChangeOld
import Derived.Below
import Derived.Test.Qxb6604509aHex
namespace Go.Proofs.Qxb6604509a.fnHexNumberMatchesPositional
open Go.ChangeShapes Go.WideShapes Go.ChangeAt Go.RowKit
open Go.ChangeMaps (open_string shut_string)
set_option linter.unusedVariables false

theorem own : ownKnob Try.prog.godebug = none := by kernel_rfl
theorem laidOut : laidOutB Try.prog = true := by kernel_rfl

/-- WHAT THE WALK IS TOLD OF A SLICE OF INTEGERS THAT CAME IN: it is nil; or it leads to a row of 'cap' cells, the numbers 'zs' (the first 'len' are its elements, the rest its spare room), each fitting its kind. -/
def IsRow (k : IntKind) (w : World) (a : Option Addr) (len cap : Nat) (zs : List Int) : Prop :=
  (a = none ∧ len = 0 ∧ cap = 0 ∧ zs = []) ∨
  ∃ x, a = some x ∧ len ≤ cap ∧ cap ≤ maxLen ∧ zs.length = cap ∧ (∀ i, i < zs.length → w.cell? (x.add i) = some (.int k (zs.getD i 0))) ∧ ∀ n ∈ zs, (Lit.int k n).wf = true

/-- Too long, or a number below 0: true at once. -/
theorem walk_out (a : Option Addr) (n c : Nat) (m : Int) (w : World) (hn : n ≤ 9223372036854775807) (ho : 1048576 < n ∨ m < 0) :
    Calls Try.prog 5 #[.slice a n c, .int .i64 m] w fun r w' => r = .returned (.bool true) ∧ Below w.heap.size w w' := by
  by_cases h1 : n ≤ 1048576
  · have h2 : m < 0 := by omega
    clear ho
    go_enter Try.func5, Try.ntmps5
    go_wp2_with (go_at_call 12; refine (bytes12 _ _ _ _ _ hn).mono ?_; rintro r w' ⟨rfl, rfl⟩)
    go_ret
    exact ⟨rfl, Below.refl _ _⟩
  · clear ho
    go_enter Try.func5, Try.ntmps5
    go_wp2_with (go_at_call 12; refine (bytes12 _ _ _ _ _ hn).mono ?_; rintro r w' ⟨rfl, rfl⟩)
    go_ret
    exact ⟨rfl, Below.refl _ _⟩

set_option maxHeartbeats 800000 in
/-- More digits asked for than bytes lie there. -/
theorem walk_far (a : Option Addr) (n c m : Nat) (zs : Nat → Int) (w : World) (hn : n ≤ 1048576) (h : CameIn w a n c zs) (hm : n < m) :
    Calls Try.prog 5 #[.slice a n c, .int .i64 m] w fun r w' => r = .returned (.bool true) ∧ Below w.heap.size w w' := by
  have HI : Hid (CameIn w a n c zs) := h
  clear h
  have hpp : (n : Int) < (m : Int) := by omega
  go_enter Try.func5, Try.ntmps5
  go_wp2_with (first | (go_at_call 12; refine (bytes12 _ _ _ _ _ (by omega)).mono ?_; rintro r w' ⟨rfl, rfl⟩) | (go_at_call 8; refine (clone_any _ _ _ _ _ hn HI.out).mono ?_; rintro r w1 ⟨a1, c1, rfl, hc1, hb1, hi1⟩) | (go_at_call 13; refine (zzHexNumber_out _ _ _ _ _ hm).mono ?_; rintro r w' ⟨rfl, rfl⟩))
  go_ret
  exact ⟨rfl, hb1⟩

set_option maxHeartbeats 1600000 in
theorem walk_in (a : Option Addr) (n c m : Nat) (zs : Nat → Int) (w : World) (hn : n ≤ 1048576) (h : CameIn w a n c zs) (hm : m ≤ n) (hb : ∀ i, i < n → 0 ≤ zs i ∧ zs i ≤ 255) :
    Calls Try.prog 5 #[.slice a n c, .int .i64 m] w fun r w' => r = .returned (.bool true) ∧ Below w.heap.size w w' := by
  have HI : Hid (CameIn w a n c zs) := h
  have HB : Hid (∀ i, i < n → 0 ≤ zs i ∧ zs i ≤ 255) := hb
  clear h hb
  have hpp : ¬ n < m := by omega
  go_enter Try.func5, Try.ntmps5
  go_wp2_with (first | (go_at_call 12; refine (bytes12 _ _ _ _ _ (by omega)).mono ?_; rintro r w' ⟨rfl, rfl⟩) | (go_at_call 8; refine (clone_any _ _ _ _ _ hn HI.out).mono ?_; rintro r w1 ⟨a1, c1, rfl, hc1, hb1, hi1⟩) | (go_at_call 13; refine (zzHexNumber_in _ _ _ _ zs _ hn hm hc1 HB.out hi1).mono ?_; rintro r w' ⟨rfl, rfl⟩))
  have H1 : Hid (IsBytes w1 a1 n zs) := hi1
  clear hi1
  go_loopw [7, 8, 9] (fun ac pl i wr => ∃ d : Nat, d ≤ m ∧ i = .int .i64 ((m : Int) - 1 - d) ∧ (∀ j, m - d ≤ j → j < m → 0 ≤ hd (zs j)) ∧ ac = .int .u32 (IntKind.u32.wrap (tailSum zs m d)) ∧ pl = .int .u32 (IntKind.u32.wrap (16 ^ d)) ∧ Below w1.heap.size w1 wr) (fun _ _ i _ => (intOf i + 1).toNat)
  case atStart => exact ⟨0, by omega, by go_num, fun j h1 h2 => absurd h1 (by omega), rfl, rfl, Below.refl _ _⟩
  case round =>
    obtain ⟨d, hdm, rfl, hgd, rfl, rfl, hb2⟩ := hrel
    have HG : Hid (∀ j, m - d ≤ j → j < m → 0 ≤ hd (zs j)) := hgd
    clear hgd
    by_cases hlt : d < m
    · obtain ⟨A, rfl, hA, hcell⟩ : ∃ A, a1 = some ⟨A, 0, none⟩ ∧ A < w1.heap.size ∧ ∀ i, i < n → w1.cell? ⟨A, i, none⟩ = some (.int .u8 (zs i)) := by
        rcases H1.out with h | h
        · omega
        · exact h
      obtain ⟨k, hk⟩ : ∃ k : Nat, m = k + 1 + d := ⟨m - 1 - d, by omega⟩
      have hkk : (m : Int) - 1 - d = (k : Int) := by omega
      have c1 : wr.cell? ⟨A, k, none⟩ = some (.int .u8 (zs k)) := by rw [hb2.cell (p := ⟨A, k, none⟩) hA]; exact hcell k (by omega)
      have HK : Hid (m = k + 1 + d) := hk
      clear hcell hk
      have hkn : (k : Int) < (n : Int) := by have := HK.out; omega
      rw [hkk]
      by_cases hd0 : 0 ≤ hd (zs k)
      · obtain ⟨r0, r1⟩ := hd_range (zs k)
        go_wp2_with (go_at_call 14; refine (hexValue_any _ _).mono ?_; rintro r w' ⟨rfl, rfl⟩)
        go_roundw
        case rel =>
          have hk := HK.out
          refine ⟨d + 1, by omega, by go_num, fun j h1 h2 => ?_, ?_, ?_, hb2⟩
          · by_cases x : j = k
            · subst x; exact hd0
            · exact HG.out j (by omega) h2
          · have e := acc_step (tailSum zs m d) (hd (zs k)) (16 ^ d)
            simp only [IntKind.wrap_u32] at e
            rw [e, IntKind.wrap_u32, tailSum, show m - 1 - d = k from by omega]
          · have e := place_step (16 ^ d)
            simp only [IntKind.wrap_u32] at e
            rw [e, IntKind.wrap_u32, Int.pow_succ]
        case measure => simp [intOf]
      · have e1 : good zs m = false := good_no (k := k) (by have := HK.out; omega) (by omega)
        have e2 : hexV zs m = 0 := hexV_no e1
        go_wp2_with (go_at_call 14; refine (hexValue_any _ _).mono ?_; rintro r w' ⟨rfl, rfl⟩)
        go_ret
        exact ⟨rfl, hb1.trans (hb2.mono hb1.size)⟩
    · obtain rfl : d = m := by omega
      have e1 : good zs d = true := (good_iff zs d).2 fun j hj => HG.out j (by omega) hj
      have hy := hexV_yes e1
      rw [hexNum_all] at hy
      have HY : Hid (hexV zs d = IntKind.i32.wrap (tailSum zs d d)) := hy
      clear hy
      go_wp2_with (go_at_call 14; refine (hexValue_any _ _).mono ?_; rintro r w' ⟨rfl, rfl⟩)
      go_ret
      have hf : (hexV zs d == wrap32 (tailSum zs d d % 4294967296)) = true := by
        rw [HY.out]
        simp only [IntKind.wrap_i32, wrap32, beq_iff_eq]
        omega
      exact ⟨by simp [hf], hb1.trans (hb2.mono hb1.size)⟩

theorem walk (a0 : Option Addr) (len0 cap0 : Nat) (z0 : List Int) (a1 : Int) (w : World) (w0 : IsRow .u8 w a0 len0 cap0 z0) (w1 : (Lit.int .i64 a1).wf = true) :
    Calls Try.prog 5 #[.slice a0 len0 cap0, .int .i64 a1] w fun e w' => e = .returned (.bool true) ∧ Below w.heap.size w w' := by
  have hin : CameIn w a0 len0 cap0 (fun i => z0.getD i 0) ∧ len0 ≤ 9223372036854775807 ∧ ∀ i, i < len0 → 0 ≤ z0.getD i 0 ∧ z0.getD i 0 ≤ 255 := by
    rcases w0 with ⟨rfl, rfl, rfl, rfl⟩ | ⟨x, rfl, hl, hm, hz, hcell, hwz⟩
    · exact ⟨.inl ⟨rfl, rfl, rfl⟩, by omega, fun i hi => absurd hi (by omega)⟩
    · unfold maxLen at hm
      refine ⟨?_, by omega, fun i hi => ?_⟩
      rotate_left
      · have hi' : i < z0.length := by omega
        have h := wf_u8 (hwz z0[i] (List.getElem_mem hi'))
        simpa [List.getD_eq_getElem?_getD, List.getElem?_eq_getElem hi'] using h
      by_cases h0 : len0 = 0
      · exact .inr (.inl ⟨h0, x, rfl⟩)
      · obtain ⟨b, off, spot⟩ := x
        have hc0 := hcell 0 (by omega)
        have hspot : spot = none := by simpa [Addr.add] using World.cell?_spot hc0
        subst hspot
        have hcell' : ∀ i, i < len0 → w.cell? ⟨b, off + i, none⟩ = some (.int .u8 (z0.getD i 0)) := fun i hi => by rw [← add_plain]; exact hcell i (by omega)
        exact .inr (.inr ⟨b, off, rfl, block_lt_of_cell (hcell' 0 (by omega)), hcell'⟩)
  obtain ⟨hin, hmax, hbyte⟩ := hin
  have hp := wf_i64 w1
  by_cases ho : (1048576 < len0 ∨ a1 < 0)
  · exact walk_out _ _ _ _ _ hmax ho
  · obtain ⟨m, rfl⟩ : ∃ m : Nat, a1 = (m : Int) := ⟨a1.toNat, by omega⟩
    by_cases hlt : m ≤ len0
    · exact walk_in a0 len0 cap0 m _ w (by omega) hin hlt hbyte
    · exact walk_far a0 len0 cap0 m _ w (by omega) hin (by omega)

/-! ### THE ROW's STEP: WRITTEN OUT: LEAVE IT -/
set_option maxRecDepth 100000 in
theorem lifted (os : Os) (started : os.Started) (H : Type) (enc : TypeId × Value → H) :
    ReturnsInHanded {} Try.checked os 5 .any (Rows.fnHexNumberMatchesPositionalSpec.pre6 enc Try.prog Try.f5 Rows.fnHexNumberMatchesPositionalRow.domain false) (Rows.fnHexNumberMatchesPositionalSpec.post enc Try.prog Try.f5 false true false false) := by
  refine returnsInHanded_of_change (C := Try.checked) own started (by kernel_rfl) Try.func5
    (ChangeSpec.witness6 (enc := enc) (C := Try.checked) false ⟨#[], #[.slice none 0 0, .int .i64 0], []⟩ 8 (by kernel_rfl) (by kernel_rfl) (by kernel_rfl) (by kernel_rfl)) ?_
  intro W base args ds gs before hval0 hW hcnd _
  have hval : ∀ (j : Nat) t v, Try.f5.params[j]? = some t → args[j]? = some v → Value.okWide Try.prog W .any base t v := hval0
  have hW' := hW
  obtain ⟨p, q, hA0, hV, rfl, hfz, hnd⟩ := hW
  have hA : DataW.TrodAll enc Try.prog W 0 (fun _ => true) true Try.f5.params.toList args.toList ds p := hA0
  rw [Try.params5] at hA hval
  obtain ⟨v0, vs0, d0, ds0, p0, q0, hargs, rfl, rfl, h0, r0⟩ := trodAll_cons hA
  obtain ⟨v1, vs1, d1, ds1, p1, q1, rfl, rfl, rfl, h1, r1⟩ := trodAll_cons r0
  obtain ⟨rfl, rfl, rfl⟩ := trodAll_nil r1
  obtain rfl : args = #[v0, v1] := by cases args; simp_all
  obtain ⟨rfl, rfl⟩ := trodVars_none hV
  obtain ⟨a0, len0, cap0, rfl⟩ := okWide_slice Try.underlying22 (hval 0 22 v0 rfl rfl)
  have k0 := h0
  have lt0 : ∀ x ∈ p0, x.block < W.heap.size := by obtain ⟨m, hm⟩ := k0; exact DataW.trod_lt m _ _ _ hm
  obtain ⟨z0, w0⟩ : ∃ zs, IsRow .u8 W a0 len0 cap0 zs := by
    obtain ⟨fuel, hf⟩ := h0
    rcases open_ints Try.underlying22 Try.underlying5 (by kernel_rfl) hf with ⟨hcs, _⟩ | ⟨x, l, c, zs, hcs, _, hl, hm, hz, _, hcell, hwz⟩
    · simp [Value.cells] at hcs
      obtain ⟨rfl, rfl, rfl⟩ := hcs
      exact ⟨[], .inl ⟨rfl, rfl, rfl, rfl⟩⟩
    · simp [Value.cells] at hcs
      obtain ⟨rfl, rfl, rfl⟩ := hcs
      exact ⟨zs, .inr ⟨_, rfl, hl, hm, by simpa using hz, hcell, hwz⟩⟩
  obtain ⟨a1, rfl, rfl, rfl, w1⟩ := open_int Try.underlying3 (hval 1 3 v1 rfl rfl) h1
  clear hA0 hval0
  refine (walk a0 len0 cap0 z0 a1 W w0 w1).mono fun e W' ⟨he, bel⟩ => ?_
  subst he
  exact ⟨_, rfl, _, _, _, [], _, [], hW', trodAll_mk1 (shut_bool Try.underlying4 _), (trodAll_cons_mk (Below.trod laidOut (by kernel_rfl) (of_decide_eq_true (by kernel_rfl)) k0 bel lt0) (trodAll_cons_mk (shut_int Try.underlying3 w1) trodAll_mk0)), rfl, bel.frame _, fun h => by cases h⟩

theorem over : Rows.fnHexNumberMatchesPositionalRow.holds Try.pinned (OpenSpec.ofChange Rows.fnHexNumberMatchesPositionalSpec) :=
  OpenClaim.holds_of_wide 5 Try.f5 rfl rfl rfl rfl rfl rfl rfl ⟨rfl, rfl, rfl, rfl, rfl⟩ rfl rfl rfl rfl rfl (by kernel_rfl) Try.func5 (by kernel_rfl)
    (of_decide_eq_true (by kernel_rfl)) (by unfold Func.isWrapper; first | (rw [if_pos (by decide +kernel)]; kernel_rfl) | (rw [if_neg (by decide +kernel)]; exact ⟨rfl, rfl⟩))
    (fun os started H enc _ => lifted os started H enc)

/-- ████ THE STATEMENT ████ -/
theorem proved : Rows.FnHexNumberMatchesPositionalSaid := over
#print axioms proved
end Go.Proofs.Qxb6604509a.fnHexNumberMatchesPositional
