/-
  THE PROOF OF 'Rows.FnJSONSpaceStopsAtFirstNonSpaceSaid': the frame as the kit's proof-skeleton.mjs writes it for this function; the walk filled in.
-/
import Derived.Test.Qxb6604509aRows
import Derived.WalkKit
import Derived.ProofKit
import Derived.OpenShut
import Derived.ShutString
import Derived.ChangeOld
import Derived.Below
import Derived.Test.Qxb6604509aSpace
namespace Go.Proofs.Qxb6604509a.fnJSONSpaceStopsAtFirstNonSpace
open Go.ChangeShapes Go.WideShapes Go.ChangeAt Go.RowKit
open Go.ChangeMaps (open_string shut_string)
set_option linter.unusedVariables false

theorem own : ownKnob Try.prog.godebug = none := by kernel_rfl
theorem laidOut : laidOutB Try.prog = true := by kernel_rfl

/-- WHAT THE WALK IS TOLD OF A SLICE OF INTEGERS THAT CAME IN: it is nil; or it leads to a row of 'cap' cells, the numbers 'zs' (the first 'len' are its elements, the rest its spare room), each fitting its kind. -/
def IsRow (k : IntKind) (w : World) (a : Option Addr) (len cap : Nat) (zs : List Int) : Prop :=
  (a = none ∧ len = 0 ∧ cap = 0 ∧ zs = []) ∨
  ∃ x, a = some x ∧ len ≤ cap ∧ cap ≤ maxLen ∧ zs.length = cap ∧ (∀ i, i < zs.length → w.cell? (x.add i) = some (.int k (zs.getD i 0))) ∧ ∀ n ∈ zs, (Lit.int k n).wf = true

/-- Too long, or a place below 0: true at once. -/
theorem walk_out (a : Option Addr) (n c : Nat) (p : Int) (w : World) (hn : n ≤ 9223372036854775807) (ho : 1048576 < n ∨ p < 0) :
    Calls Try.prog 3 #[.slice a n c, .int .i64 p] w fun r w' => r = .returned (.bool true) ∧ Below w.heap.size w w' := by
  by_cases h1 : n ≤ 1048576
  · have h2 : p < 0 := by omega
    clear ho
    go_enter Try.func3, Try.ntmps3
    go_wp2_with (go_at_call 7; refine (bytes7 _ _ _ _ _ hn).mono ?_; rintro r w' ⟨rfl, rfl⟩)
    go_ret
    exact ⟨rfl, Below.refl _ _⟩
  · clear ho
    go_enter Try.func3, Try.ntmps3
    go_wp2_with (go_at_call 7; refine (bytes7 _ _ _ _ _ hn).mono ?_; rintro r w' ⟨rfl, rfl⟩)
    go_ret
    exact ⟨rfl, Below.refl _ _⟩

set_option maxHeartbeats 800000 in
theorem walk_far (a : Option Addr) (n c p : Nat) (zs : Nat → Int) (w : World) (hn : n ≤ 1048576) (h : CameIn w a n c zs) (hp : n ≤ p) (hp2 : p ≤ 9223372036854775807) :
    Calls Try.prog 3 #[.slice a n c, .int .i64 p] w fun r w' => r = .returned (.bool true) ∧ Below w.heap.size w w' := by
  have HI : Hid (CameIn w a n c zs) := h
  clear h
  have hpp : (n : Int) ≤ (p : Int) := by omega
  have e0 : ((p : Int) == (p : Int)) = true := by simp
  go_enter Try.func3, Try.ntmps3
  go_wp2_with (first | (go_at_call 7; refine (bytes7 _ _ _ _ _ (by omega)).mono ?_; rintro r w' ⟨rfl, rfl⟩) | (go_at_call 8; refine (clone_any _ _ _ _ _ hn HI.out).mono ?_; rintro r w1 ⟨a1, c1, rfl, hc1, hb1, hi1⟩))
  refine (jsonSpace_any n c1 p a1 zs w1 hn (by rcases hi1 with h | ⟨A, h1, h2, h3⟩; exact .inl h; exact .inr ⟨A, 0, h1, h2, by simpa using h3⟩)).mono ?_
  rintro r w2 ⟨rfl, hb2⟩
  rw [jump_end hp]
  go_wp2
  go_ret
  exact ⟨by simp, hb1.trans (hb2.mono hb1.size)⟩

set_option maxHeartbeats 800000 in
theorem walk_in (a : Option Addr) (n c p : Nat) (zs : Nat → Int) (w : World) (hn : n ≤ 1048576) (h : CameIn w a n c zs) (hp : p < n) :
    Calls Try.prog 3 #[.slice a n c, .int .i64 p] w fun r w' => r = .returned (.bool true) ∧ Below w.heap.size w w' := by
  have HI : Hid (CameIn w a n c zs) := h
  clear h
  have hpp : (p : Int) < (n : Int) := by omega
  go_enter Try.func3, Try.ntmps3
  go_wp2_with (first | (go_at_call 7; refine (bytes7 _ _ _ _ _ (by omega)).mono ?_; rintro r w' ⟨rfl, rfl⟩) | (go_at_call 8; refine (clone_any _ _ _ _ _ hn HI.out).mono ?_; rintro r w1 ⟨a1, c1, rfl, hc1, hb1, hi1⟩))
  refine (jsonSpace_any n c1 p a1 zs w1 hn (by rcases hi1 with h | ⟨A, h1, h2, h3⟩; exact .inl h; exact .inr ⟨A, 0, h1, h2, by simpa using h3⟩)).mono ?_
  rintro r w2 ⟨rfl, hb2⟩
  obtain ⟨A, rfl, hA, hcell⟩ : ∃ A, a1 = some ⟨A, 0, none⟩ ∧ A < w1.heap.size ∧ ∀ i, i < n → w2.cell? ⟨A, i, none⟩ = some (.int .u8 (zs i)) := by
    rcases hi1 with h | ⟨A, h1, h2, h3⟩
    · omega
    · exact ⟨A, h1, h2, fun i hi => by rw [hb2.cell (p := ⟨A, i, none⟩) h2]; exact h3 i hi⟩
  have HC : Hid (∀ i, i < n → w2.cell? ⟨A, i, none⟩ = some (.int .u8 (zs i))) := hcell
  clear hcell
  obtain ⟨j1, j2⟩ := jump_le zs n p (by omega)
  have j3 := jump_in zs n p
  have j4 := jump_at zs n p (by omega)
  generalize jump zs n p = q at j1 j2 j3 j4
  have J3 : Hid (∀ i, p ≤ i → i < q → isSp (zs i) = true) := j3
  have J4 : Hid (q < n → isSp (zs q) = false) := j4
  clear j3 j4
  have q0 : ¬ n ≤ p := by omega
  have q1 : ¬ q < p := by omega
  have q2 : ¬ n < q := by omega
  go_wp2
  go_loopw [6] (fun i wr => ∃ k : Nat, p ≤ k ∧ k ≤ q ∧ i = .int .i64 k ∧ Below w2.heap.size w2 wr) (fun i _ => q - (intOf i).toNat)
  case atStart => exact ⟨p, Nat.le_refl _, j1, rfl, Below.refl _ _⟩
  case round =>
    obtain ⟨k, hk0, hk, rfl, hb3⟩ := hrel
    have HC3 : Hid (∀ i, i < n → wr.cell? ⟨A, i, none⟩ = some (.int .u8 (zs i))) := fun i hi => by rw [hb3.cell (p := ⟨A, i, none⟩) (Nat.lt_of_lt_of_le hA hb2.size)]; exact HC.out i hi
    by_cases hlt : k < q
    · have c1 : wr.cell? ⟨A, k, none⟩ = some (.int .u8 (zs k)) := HC3.out k (by omega)
      have s1 := J3.out k hk0 hlt
      go_wp2_with (go_at_call 10; refine (isSpace_any _ _).mono ?_; rintro r w' ⟨rfl, rfl⟩)
      go_roundw
      case rel => exact ⟨k + 1, by omega, by omega, by go_num, hb3⟩
      case measure => simp [intOf]; omega
    · have e0 : k = q := by omega
      subst e0
      by_cases hq : k < n
      · have c1 : wr.cell? ⟨A, k, none⟩ = some (.int .u8 (zs k)) := HC3.out k (by omega)
        have s1 := J4.out hq
        have hd : ((k : Int) == (n : Int)) = false := by simp; omega
        have hd2 : (k : Int) < (n : Int) := by omega
        go_wp2_with (go_at_call 10; refine (isSpace_any _ _).mono ?_; rintro r w' ⟨rfl, rfl⟩)
        go_ret
        exact ⟨by simp, hb1.trans ((hb2.trans (hb3.mono hb2.size)).mono hb1.size)⟩
      · have hd : ((k : Int) == (n : Int)) = true := by simp; omega
        go_wp2_with (go_at_call 10; refine (isSpace_any _ _).mono ?_; rintro r w' ⟨rfl, rfl⟩)
        go_ret
        exact ⟨by simp, hb1.trans ((hb2.trans (hb3.mono hb2.size)).mono hb1.size)⟩

theorem walk (a0 : Option Addr) (len0 cap0 : Nat) (z0 : List Int) (a1 : Int) (w : World) (w0 : IsRow .u8 w a0 len0 cap0 z0) (w1 : (Lit.int .i64 a1).wf = true) :
    Calls Try.prog 3 #[.slice a0 len0 cap0, .int .i64 a1] w fun e w' => e = .returned (.bool true) ∧ Below w.heap.size w w' := by
  have hin : CameIn w a0 len0 cap0 (fun i => z0.getD i 0) ∧ len0 ≤ 9223372036854775807 := by
    rcases w0 with ⟨rfl, rfl, rfl, rfl⟩ | ⟨x, rfl, hl, hm, hz, hcell, hwz⟩
    · exact ⟨.inl ⟨rfl, rfl, rfl⟩, by omega⟩
    · unfold maxLen at hm
      refine ⟨?_, by omega⟩
      by_cases h0 : len0 = 0
      · exact .inr (.inl ⟨h0, x, rfl⟩)
      · obtain ⟨b, off, spot⟩ := x
        have hc0 := hcell 0 (by omega)
        have hspot : spot = none := by simpa [Addr.add] using World.cell?_spot hc0
        subst hspot
        have hcell' : ∀ i, i < len0 → w.cell? ⟨b, off + i, none⟩ = some (.int .u8 (z0.getD i 0)) := fun i hi => by rw [← add_plain]; exact hcell i (by omega)
        exact .inr (.inr ⟨b, off, rfl, block_lt_of_cell (hcell' 0 (by omega)), hcell'⟩)
  obtain ⟨hin, hmax⟩ := hin
  have hp := wf_i64 w1
  by_cases ho : (1048576 < len0 ∨ a1 < 0)
  · exact walk_out _ _ _ _ _ hmax ho
  · obtain ⟨p, rfl⟩ : ∃ p : Nat, a1 = (p : Int) := ⟨a1.toNat, by omega⟩
    by_cases hlt : p < len0
    · exact walk_in a0 len0 cap0 p _ w (by omega) hin hlt
    · exact walk_far a0 len0 cap0 p _ w (by omega) hin (by omega) (by omega)

/-! ### THE ROW's STEP: WRITTEN OUT: LEAVE IT -/
set_option maxRecDepth 100000 in
theorem lifted (os : Os) (started : os.Started) (H : Type) (enc : TypeId × Value → H) :
    ReturnsInHanded {} Try.checked os 3 .any (Rows.fnJSONSpaceStopsAtFirstNonSpaceSpec.pre6 enc Try.prog Try.f3 Rows.fnJSONSpaceStopsAtFirstNonSpaceRow.domain false) (Rows.fnJSONSpaceStopsAtFirstNonSpaceSpec.post enc Try.prog Try.f3 false true false false) := by
  refine returnsInHanded_of_change (C := Try.checked) own started (by kernel_rfl) Try.func3
    (ChangeSpec.witness6 (enc := enc) (C := Try.checked) false ⟨#[], #[.slice none 0 0, .int .i64 0], []⟩ 8 (by kernel_rfl) (by kernel_rfl) (by kernel_rfl) (by kernel_rfl)) ?_
  intro W base args ds gs before hval0 hW hcnd _
  have hval : ∀ (j : Nat) t v, Try.f3.params[j]? = some t → args[j]? = some v → Value.okWide Try.prog W .any base t v := hval0
  have hW' := hW
  obtain ⟨p, q, hA0, hV, rfl, hfz, hnd⟩ := hW
  have hA : DataW.TrodAll enc Try.prog W 0 (fun _ => true) true Try.f3.params.toList args.toList ds p := hA0
  rw [Try.params3] at hA hval
  obtain ⟨v0, vs0, d0, ds0, p0, q0, hargs, rfl, rfl, h0, r0⟩ := trodAll_cons hA
  obtain ⟨v1, vs1, d1, ds1, p1, q1, rfl, rfl, rfl, h1, r1⟩ := trodAll_cons r0
  obtain ⟨rfl, rfl, rfl⟩ := trodAll_nil r1
  obtain rfl : args = #[v0, v1] := by cases args; simp_all
  obtain ⟨rfl, rfl⟩ := trodVars_none hV
  obtain ⟨a0, len0, cap0, rfl⟩ := okWide_slice Try.underlying22 (hval 0 22 v0 rfl rfl)
  have k0 := h0
  have lt0 : ∀ x ∈ p0, x.block < W.heap.size := by obtain ⟨m, hm⟩ := k0; exact DataW.trod_lt m _ _ _ hm
  obtain ⟨z0, w0⟩ : ∃ zs, IsRow .u8 W a0 len0 cap0 zs := by
    obtain ⟨fuel, hf⟩ := h0
    rcases open_ints Try.underlying22 Try.underlying5 (by kernel_rfl) hf with ⟨hcs, _⟩ | ⟨x, l, c, zs, hcs, _, hl, hm, hz, _, hcell, hwz⟩
    · simp [Value.cells] at hcs
      obtain ⟨rfl, rfl, rfl⟩ := hcs
      exact ⟨[], .inl ⟨rfl, rfl, rfl, rfl⟩⟩
    · simp [Value.cells] at hcs
      obtain ⟨rfl, rfl, rfl⟩ := hcs
      exact ⟨zs, .inr ⟨_, rfl, hl, hm, by simpa using hz, hcell, hwz⟩⟩
  obtain ⟨a1, rfl, rfl, rfl, w1⟩ := open_int Try.underlying3 (hval 1 3 v1 rfl rfl) h1
  clear hA0 hval0
  refine (walk a0 len0 cap0 z0 a1 W w0 w1).mono fun e W' ⟨he, bel⟩ => ?_
  subst he
  exact ⟨_, rfl, _, _, _, [], _, [], hW', trodAll_mk1 (shut_bool Try.underlying4 _), (trodAll_cons_mk (Below.trod laidOut (by kernel_rfl) (of_decide_eq_true (by kernel_rfl)) k0 bel lt0) (trodAll_cons_mk (shut_int Try.underlying3 w1) trodAll_mk0)), rfl, bel.frame _, fun h => by cases h⟩

theorem over : Rows.fnJSONSpaceStopsAtFirstNonSpaceRow.holds Try.pinned (OpenSpec.ofChange Rows.fnJSONSpaceStopsAtFirstNonSpaceSpec) :=
  OpenClaim.holds_of_wide 3 Try.f3 rfl rfl rfl rfl rfl rfl rfl ⟨rfl, rfl, rfl, rfl, rfl⟩ rfl rfl rfl rfl rfl (by kernel_rfl) Try.func3 (by kernel_rfl)
    (of_decide_eq_true (by kernel_rfl)) (by unfold Func.isWrapper; first | (rw [if_pos (by decide +kernel)]; kernel_rfl) | (rw [if_neg (by decide +kernel)]; exact ⟨rfl, rfl⟩))
    (fun os started H enc _ => lifted os started H enc)

/-- ████ THE STATEMENT ████ -/
theorem proved : Rows.FnJSONSpaceStopsAtFirstNonSpaceSaid := over
#print axioms proved
end Go.Proofs.Qxb6604509a.fnJSONSpaceStopsAtFirstNonSpace
