/-
  THE PROOF OF 'Rows.FnJSONSpaceShiftAndRestartSaid': the frame as the kit's proof-skeleton.mjs writes it for this function; the walk filled in.
-/
import Derived.Test.Qxb6604509aRows
import Derived.WalkKit
import Derived.ProofKit
import Derived.OpenShut
import Derived.ShutString
import Derived.ChangeOld
import Derived.Below
import Derived.Test.Qxb6604509aSpace
namespace Go.Proofs.Qxb6604509a.fnJSONSpaceShiftAndRestart
open Go.ChangeShapes Go.WideShapes Go.ChangeAt Go.RowKit
open Go.ChangeMaps (open_string shut_string)
set_option linter.unusedVariables false

theorem own : ownKnob Try.prog.godebug = none := by kernel_rfl
theorem laidOut : laidOutB Try.prog = true := by kernel_rfl

/-- WHAT THE WALK IS TOLD OF A SLICE OF INTEGERS THAT CAME IN: it is nil; or it leads to a row of 'cap' cells, the numbers 'zs' (the first 'len' are its elements, the rest its spare room), each fitting its kind. -/
def IsRow (k : IntKind) (w : World) (a : Option Addr) (len cap : Nat) (zs : List Int) : Prop :=
  (a = none ∧ len = 0 ∧ cap = 0 ∧ zs = []) ∨
  ∃ x, a = some x ∧ len ≤ cap ∧ cap ≤ maxLen ∧ zs.length = cap ∧ (∀ i, i < zs.length → w.cell? (x.add i) = some (.int k (zs.getD i 0))) ∧ ∀ n ∈ zs, (Lit.int k n).wf = true

/-- Too long, or a place out of range: true at once. -/
theorem walk_out (a : Option Addr) (n c : Nat) (p : Int) (w : World) (hn : n ≤ 9223372036854775807) (ho : 1048576 < n ∨ p < 0 ∨ (n : Int) < p) :
    Calls Try.prog 4 #[.slice a n c, .int .i64 p] w fun r w' => r = .returned (.bool true) ∧ Below w.heap.size w w' := by
  by_cases h1 : n ≤ 1048576
  · by_cases h2 : p < 0
    · clear ho
      go_enter Try.func4, Try.ntmps4
      go_wp2_with (go_at_call 11; refine (bytes11 _ _ _ _ _ hn).mono ?_; rintro r w' ⟨rfl, rfl⟩)
      go_ret
      exact ⟨rfl, Below.refl _ _⟩
    · have h3 : (n : Int) < p := by omega
      clear ho
      go_enter Try.func4, Try.ntmps4
      go_wp2_with (go_at_call 11; refine (bytes11 _ _ _ _ _ hn).mono ?_; rintro r w' ⟨rfl, rfl⟩)
      go_ret
      exact ⟨rfl, Below.refl _ _⟩
  · clear ho
    go_enter Try.func4, Try.ntmps4
    go_wp2_with (go_at_call 11; refine (bytes11 _ _ _ _ _ hn).mono ?_; rintro r w' ⟨rfl, rfl⟩)
    go_ret
    exact ⟨rfl, Below.refl _ _⟩

theorem walk_zero (a : Option Addr) (c : Nat) (zs : Nat → Int) (w : World) (h : CameIn w a 0 c zs) :
    Calls Try.prog 4 #[.slice a 0 c, .int .i64 0] w fun r w' => r = .returned (.bool true) ∧ Below w.heap.size w w' := by
  have HI : Hid (CameIn w a 0 c zs) := h
  clear h
  go_enter Try.func4, Try.ntmps4
  go_wp2_with (first | (go_at_call 11; refine (bytes11 _ _ _ _ _ (by omega)).mono ?_; rintro r w' ⟨rfl, rfl⟩) | (go_at_call 8; refine (clone_any _ _ _ _ _ (by omega) HI.out).mono ?_; rintro r w1 ⟨a1, c1, rfl, hc1, hb1, hi1⟩))
  refine (jsonSpace_any 0 c1 0 a1 zs w1 (by omega) (.inl rfl)).mono ?_
  rintro r w2 ⟨rfl, hb2⟩
  rw [jump_end (Nat.le_refl 0)]
  go_wp2_with fail
  refine (jsonSpace_any 0 c1 0 a1 zs w2 (by omega) (.inl rfl)).mono ?_
  rintro r w3 ⟨rfl, hb3⟩
  rw [jump_end (Nat.le_refl 0)]
  go_wp2_with fail
  refine (jsonSpace_any 0 c1 0 a1 zs w3 (by omega) (.inl rfl)).mono ?_
  rintro r w4 ⟨rfl, hb4⟩
  rw [jump_end (Nat.le_refl 0)]
  go_wp2
  go_ret
  exact ⟨rfl, hb1.trans ((hb2.trans ((hb3.trans (hb4.mono hb3.size)).mono hb2.size)).mono hb1.size)⟩

/-- The bytes of a slice from its place 'off' on, told as 'jsonSpace_any' wants them. -/
theorem row_at {w : World} {A off n : Nat} {zs : Nat → Int} (hA : A < w.heap.size) (h : ∀ i, i < n → w.cell? ⟨A, off + i, none⟩ = some (.int .u8 (zs i))) :
    n = 0 ∨ ∃ B o, some (⟨A, off, none⟩ : Addr) = some ⟨B, o, none⟩ ∧ B < w.heap.size ∧ ∀ i, i < n → w.cell? ⟨B, o + i, none⟩ = some (.int .u8 (zs i)) := .inr ⟨A, off, rfl, hA, h⟩

set_option maxHeartbeats 1600000 in
theorem walk_in (a : Option Addr) (n c p : Nat) (zs : Nat → Int) (w : World) (hn : n ≤ 1048576) (h : CameIn w a n c zs) (hp : p < n) :
    Calls Try.prog 4 #[.slice a n c, .int .i64 p] w fun r w' => r = .returned (.bool true) ∧ Below w.heap.size w w' := by
  have HI : Hid (CameIn w a n c zs) := h
  clear h
  have hpp : ¬ n < p := by omega
  obtain ⟨t, ht⟩ : ∃ t, t = jump (fun i => zs (p + i)) (n - p) 0 := ⟨_, rfl⟩
  have j1 : jump zs n p = p + t := by rw [ht]; exact jump_shift zs n p
  have j2 : p + t ≤ n := by rw [← j1]; exact (jump_le zs n p (by omega)).2
  have j3 : jump zs n (p + t) = p + t := by rw [← j1]; exact jump_again zs n p (by omega)
  have J1 : Hid (jump zs n p = p + t) := j1
  have J3 : Hid (jump zs n (p + t) = p + t) := j3
  have JT : Hid (t = jump (fun i => zs (p + i)) (n - p) 0) := ht
  have J5 : Hid (isSp (zs p) = true → 0 < t ∧ jump zs n (p + 1) = p + t) := fun hs => by
    have h1 := jump_go hp hs
    have h2 := (jump_le zs n (p + 1) (by omega)).1
    exact ⟨by omega, by omega⟩
  clear ht j1 j3
  go_enter Try.func4, Try.ntmps4
  go_wp2_with (first | (go_at_call 11; refine (bytes11 _ _ _ _ _ (by omega)).mono ?_; rintro r w' ⟨rfl, rfl⟩) | (go_at_call 8; refine (clone_any _ _ _ _ _ hn HI.out).mono ?_; rintro r w1 ⟨a1, c1, rfl, hc1, hb1, hi1⟩))
  obtain ⟨A, rfl, hA, hcell⟩ : ∃ A, a1 = some ⟨A, 0, none⟩ ∧ A < w1.heap.size ∧ ∀ i, i < n → w1.cell? ⟨A, i, none⟩ = some (.int .u8 (zs i)) := by
    rcases hi1 with h | ⟨A, h1, h2, h3⟩
    · omega
    · exact ⟨A, h1, h2, h3⟩
  have HC1 : Hid (∀ i, i < n → w1.cell? ⟨A, i, none⟩ = some (.int .u8 (zs i))) := hcell
  clear hcell hi1
  refine (jsonSpace_any n c1 p _ zs w1 hn (row_at hA (by simpa using HC1.out))).mono ?_
  rintro r w2 ⟨rfl, hb2⟩
  rw [J1.out]
  have HC2 : Hid (∀ i, i < n → w2.cell? ⟨A, i, none⟩ = some (.int .u8 (zs i))) := fun i hi => by rw [hb2.cell (p := ⟨A, i, none⟩) hA]; exact HC1.out i hi
  have hA2 : A < w2.heap.size := Nat.lt_of_lt_of_le hA hb2.size
  have hcp : ¬ c1 = p := by omega
  go_wp2_with fail
  refine (jsonSpace_any (n - p) (c1 - p) 0 _ (fun i => zs (p + i)) w2 (by omega) (row_at hA2 (fun i hi => HC2.out (p + i) (by omega)))).mono ?_
  rintro r w3 ⟨rfl, hb3⟩
  rw [← JT.out]
  have HC3 : Hid (∀ i, i < n → w3.cell? ⟨A, i, none⟩ = some (.int .u8 (zs i))) := fun i hi => by rw [hb3.cell (p := ⟨A, i, none⟩) hA2]; exact HC2.out i hi
  have hA3 : A < w3.heap.size := Nat.lt_of_lt_of_le hA2 hb3.size
  go_wp2_with fail
  have k4 := jsonSpace_any n c1 (p + t) (some ⟨A, 0, none⟩) zs w3 hn (row_at hA3 (by simpa using HC3.out))
  rw [J3.out, Int.natCast_add] at k4
  refine k4.mono ?_
  rintro r w4 ⟨rfl, hb4⟩
  clear k4
  have HC4 : Hid (∀ i, i < n → w4.cell? ⟨A, i, none⟩ = some (.int .u8 (zs i))) := fun i hi => by rw [hb4.cell (p := ⟨A, i, none⟩) hA3]; exact HC3.out i hi
  have hA4 : A < w4.heap.size := Nat.lt_of_lt_of_le hA3 hb4.size
  have c5 : w4.cell? ⟨A, p, none⟩ = some (.int .u8 (zs p)) := HC4.out p hp
  have hlt : (p : Int) < (n : Int) := by omega
  have hbs : Below w.heap.size w w4 := hb1.trans ((hb2.trans ((hb3.trans (hb4.mono hb3.size)).mono hb2.size)).mono hb1.size)
  by_cases hs : isSp (zs p) = true
  · obtain ⟨t0, t1⟩ := J5.out hs
    have T1 : Hid (jump zs n (p + 1) = p + t) := t1
    clear t1
    have ht : ¬ t = 0 := by omega
    have hle : ¬ (p : Int) + (t : Int) ≤ (p : Int) := by omega
    go_wp2_with (go_at_call 10; refine (isSpace_any _ _).mono ?_; rintro r w' ⟨rfl, rfl⟩)
    have k5 := jsonSpace_any n c1 (p + 1) (some ⟨A, 0, none⟩) zs w4 hn (row_at hA4 (by simpa using HC4.out))
    rw [T1.out, Int.natCast_add, Int.natCast_add] at k5
    refine k5.mono ?_
    rintro r w5 ⟨rfl, hb5⟩
    clear k5
    go_wp2
    go_ret
    exact ⟨by simp, hbs.trans (hb5.mono hbs.size)⟩
  · have hs' : isSp (zs p) = false := by simpa using hs
    clear hs
    go_wp2_with (go_at_call 10; refine (isSpace_any _ _).mono ?_; rintro r w' ⟨rfl, rfl⟩)
    go_ret
    exact ⟨by simp, hbs⟩

set_option maxHeartbeats 1600000 in
/-- From the very end. -/
theorem walk_end (a : Option Addr) (n c : Nat) (zs : Nat → Int) (w : World) (hn : n ≤ 1048576) (h : CameIn w a n c zs) (hp : 0 < n) :
    Calls Try.prog 4 #[.slice a n c, .int .i64 n] w fun r w' => r = .returned (.bool true) ∧ Below w.heap.size w w' := by
  have HI : Hid (CameIn w a n c zs) := h
  clear h
  have J1 : Hid (jump zs n n = n) := jump_end (Nat.le_refl n)
  go_enter Try.func4, Try.ntmps4
  go_wp2_with (first | (go_at_call 11; refine (bytes11 _ _ _ _ _ (by omega)).mono ?_; rintro r w' ⟨rfl, rfl⟩) | (go_at_call 8; refine (clone_any _ _ _ _ _ hn HI.out).mono ?_; rintro r w1 ⟨a1, c1, rfl, hc1, hb1, hi1⟩))
  obtain ⟨A, rfl, hA, hcell⟩ : ∃ A, a1 = some ⟨A, 0, none⟩ ∧ A < w1.heap.size ∧ ∀ i, i < n → w1.cell? ⟨A, i, none⟩ = some (.int .u8 (zs i)) := by
    rcases hi1 with h | ⟨A, h1, h2, h3⟩
    · omega
    · exact ⟨A, h1, h2, h3⟩
  have HC1 : Hid (∀ i, i < n → w1.cell? ⟨A, i, none⟩ = some (.int .u8 (zs i))) := hcell
  clear hcell hi1
  refine (jsonSpace_any n c1 n _ zs w1 hn (row_at hA (by simpa using HC1.out))).mono ?_
  rintro r w2 ⟨rfl, hb2⟩
  rw [J1.out]
  have HC2 : Hid (∀ i, i < n → w2.cell? ⟨A, i, none⟩ = some (.int .u8 (zs i))) := fun i hi => by rw [hb2.cell (p := ⟨A, i, none⟩) hA]; exact HC1.out i hi
  have hA2 : A < w2.heap.size := Nat.lt_of_lt_of_le hA hb2.size
  go_wp2_with fail
  all_goals
    refine (jsonSpace_any 0 _ 0 _ zs w2 (by omega) (.inl rfl)).mono ?_
    rintro r w3 ⟨rfl, hb3⟩
    rw [jump_end (Nat.le_refl 0)]
    have HC3 : Hid (∀ i, i < n → w3.cell? ⟨A, i, none⟩ = some (.int .u8 (zs i))) := fun i hi => by rw [hb3.cell (p := ⟨A, i, none⟩) hA2]; exact HC2.out i hi
    have hA3 : A < w3.heap.size := Nat.lt_of_lt_of_le hA2 hb3.size
    go_wp2_with fail
    refine (jsonSpace_any n _ n _ zs w3 hn (row_at hA3 (by simpa using HC3.out))).mono ?_
    rintro r w4 ⟨rfl, hb4⟩
    rw [J1.out]
    go_wp2
    go_ret
    exact ⟨by simp, hb1.trans ((hb2.trans ((hb3.trans (hb4.mono hb3.size)).mono hb2.size)).mono hb1.size)⟩

theorem walk (a0 : Option Addr) (len0 cap0 : Nat) (z0 : List Int) (a1 : Int) (w : World) (w0 : IsRow .u8 w a0 len0 cap0 z0) (w1 : (Lit.int .i64 a1).wf = true) :
    Calls Try.prog 4 #[.slice a0 len0 cap0, .int .i64 a1] w fun e w' => e = .returned (.bool true) ∧ Below w.heap.size w w' := by
  have hin : CameIn w a0 len0 cap0 (fun i => z0.getD i 0) ∧ len0 ≤ 9223372036854775807 := by
    rcases w0 with ⟨rfl, rfl, rfl, rfl⟩ | ⟨x, rfl, hl, hm, hz, hcell, hwz⟩
    · exact ⟨.inl ⟨rfl, rfl, rfl⟩, by omega⟩
    · unfold maxLen at hm
      refine ⟨?_, by omega⟩
      by_cases h0 : len0 = 0
      · exact .inr (.inl ⟨h0, x, rfl⟩)
      · obtain ⟨b, off, spot⟩ := x
        have hc0 := hcell 0 (by omega)
        have hspot : spot = none := by simpa [Addr.add] using World.cell?_spot hc0
        subst hspot
        have hcell' : ∀ i, i < len0 → w.cell? ⟨b, off + i, none⟩ = some (.int .u8 (z0.getD i 0)) := fun i hi => by rw [← add_plain]; exact hcell i (by omega)
        exact .inr (.inr ⟨b, off, rfl, block_lt_of_cell (hcell' 0 (by omega)), hcell'⟩)
  obtain ⟨hin, hmax⟩ := hin
  have hp := wf_i64 w1
  by_cases ho : (1048576 < len0 ∨ a1 < 0 ∨ (len0 : Int) < a1)
  · exact walk_out _ _ _ _ _ hmax ho
  · obtain ⟨p, rfl⟩ : ∃ p : Nat, a1 = (p : Int) := ⟨a1.toNat, by omega⟩
    by_cases h0 : len0 = 0
    · subst h0
      obtain rfl : p = 0 := by omega
      exact walk_zero a0 cap0 _ w hin
    · by_cases hlt : p < len0
      · exact walk_in a0 len0 cap0 p _ w (by omega) hin hlt
      · obtain rfl : p = len0 := by omega
        exact walk_end a0 p cap0 _ w (by omega) hin (by omega)

/-! ### THE ROW's STEP: WRITTEN OUT: LEAVE IT -/
set_option maxRecDepth 100000 in
theorem lifted (os : Os) (started : os.Started) (H : Type) (enc : TypeId × Value → H) :
    ReturnsInHanded {} Try.checked os 4 .any (Rows.fnJSONSpaceShiftAndRestartSpec.pre6 enc Try.prog Try.f4 Rows.fnJSONSpaceShiftAndRestartRow.domain false) (Rows.fnJSONSpaceShiftAndRestartSpec.post enc Try.prog Try.f4 false true false false) := by
  refine returnsInHanded_of_change (C := Try.checked) own started (by kernel_rfl) Try.func4
    (ChangeSpec.witness6 (enc := enc) (C := Try.checked) false ⟨#[], #[.slice none 0 0, .int .i64 0], []⟩ 8 (by kernel_rfl) (by kernel_rfl) (by kernel_rfl) (by kernel_rfl)) ?_
  intro W base args ds gs before hval0 hW hcnd _
  have hval : ∀ (j : Nat) t v, Try.f4.params[j]? = some t → args[j]? = some v → Value.okWide Try.prog W .any base t v := hval0
  have hW' := hW
  obtain ⟨p, q, hA0, hV, rfl, hfz, hnd⟩ := hW
  have hA : DataW.TrodAll enc Try.prog W 0 (fun _ => true) true Try.f4.params.toList args.toList ds p := hA0
  rw [Try.params4] at hA hval
  obtain ⟨v0, vs0, d0, ds0, p0, q0, hargs, rfl, rfl, h0, r0⟩ := trodAll_cons hA
  obtain ⟨v1, vs1, d1, ds1, p1, q1, rfl, rfl, rfl, h1, r1⟩ := trodAll_cons r0
  obtain ⟨rfl, rfl, rfl⟩ := trodAll_nil r1
  obtain rfl : args = #[v0, v1] := by cases args; simp_all
  obtain ⟨rfl, rfl⟩ := trodVars_none hV
  obtain ⟨a0, len0, cap0, rfl⟩ := okWide_slice Try.underlying22 (hval 0 22 v0 rfl rfl)
  have k0 := h0
  have lt0 : ∀ x ∈ p0, x.block < W.heap.size := by obtain ⟨m, hm⟩ := k0; exact DataW.trod_lt m _ _ _ hm
  obtain ⟨z0, w0⟩ : ∃ zs, IsRow .u8 W a0 len0 cap0 zs := by
    obtain ⟨fuel, hf⟩ := h0
    rcases open_ints Try.underlying22 Try.underlying5 (by kernel_rfl) hf with ⟨hcs, _⟩ | ⟨x, l, c, zs, hcs, _, hl, hm, hz, _, hcell, hwz⟩
    · simp [Value.cells] at hcs
      obtain ⟨rfl, rfl, rfl⟩ := hcs
      exact ⟨[], .inl ⟨rfl, rfl, rfl, rfl⟩⟩
    · simp [Value.cells] at hcs
      obtain ⟨rfl, rfl, rfl⟩ := hcs
      exact ⟨zs, .inr ⟨_, rfl, hl, hm, by simpa using hz, hcell, hwz⟩⟩
  obtain ⟨a1, rfl, rfl, rfl, w1⟩ := open_int Try.underlying3 (hval 1 3 v1 rfl rfl) h1
  clear hA0 hval0
  refine (walk a0 len0 cap0 z0 a1 W w0 w1).mono fun e W' ⟨he, bel⟩ => ?_
  subst he
  exact ⟨_, rfl, _, _, _, [], _, [], hW', trodAll_mk1 (shut_bool Try.underlying4 _), (trodAll_cons_mk (Below.trod laidOut (by kernel_rfl) (of_decide_eq_true (by kernel_rfl)) k0 bel lt0) (trodAll_cons_mk (shut_int Try.underlying3 w1) trodAll_mk0)), rfl, bel.frame _, fun h => by cases h⟩

theorem over : Rows.fnJSONSpaceShiftAndRestartRow.holds Try.pinned (OpenSpec.ofChange Rows.fnJSONSpaceShiftAndRestartSpec) :=
  OpenClaim.holds_of_wide 4 Try.f4 rfl rfl rfl rfl rfl rfl rfl ⟨rfl, rfl, rfl, rfl, rfl⟩ rfl rfl rfl rfl rfl (by kernel_rfl) Try.func4 (by kernel_rfl)
    (of_decide_eq_true (by kernel_rfl)) (by unfold Func.isWrapper; first | (rw [if_pos (by decide +kernel)]; kernel_rfl) | (rw [if_neg (by decide +kernel)]; exact ⟨rfl, rfl⟩))
    (fun os started H enc _ => lifted os started H enc)

/-- ████ THE STATEMENT ████ -/
theorem proved : Rows.FnJSONSpaceShiftAndRestartSaid := over
#print axioms proved
end Go.Proofs.Qxb6604509a.fnJSONSpaceShiftAndRestart
