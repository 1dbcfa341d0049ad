/-
  THE PROOF OF 'Rows.FnFirstSeqCountsBackFromExpectedSaid': the frame as the kit's proof-skeleton.mjs writes it for this function; the walk filled in.
-/
import Derived.Test.Qxb6604503aRows
import Derived.WalkKit
import Derived.ProofKit
import Derived.OpenShut
import Derived.ShutString
import Derived.ChangeOld
import Derived.Below
import Derived.Test.Qxb6604503aSeq
namespace Go.Proofs.Qxb6604503a.fnFirstSeqCountsBackFromExpected
open Go.ChangeShapes Go.WideShapes Go.ChangeAt Go.RowKit
open Go.ChangeMaps (open_string shut_string)
set_option linter.unusedVariables false

theorem own : ownKnob Try.prog.godebug = none := by kernel_rfl
theorem laidOut : laidOutB Try.prog = true := by kernel_rfl

/-- WHAT THE WALK IS TOLD OF A SLICE OF INTEGERS THAT CAME IN: it is nil; or it leads to a row of 'cap' cells, the numbers 'zs' (the first 'len' are its elements, the rest its spare room), each fitting its kind. -/
def IsRow (k : IntKind) (w : World) (a : Option Addr) (len cap : Nat) (zs : List Int) : Prop :=
  (a = none ∧ len = 0 ∧ cap = 0 ∧ zs = []) ∨
  ∃ x, a = some x ∧ len ≤ cap ∧ cap ≤ maxLen ∧ zs.length = cap ∧ (∀ i, i < zs.length → w.cell? (x.add i) = some (.int k (zs.getD i 0))) ∧ ∀ n ∈ zs, (Lit.int k n).wf = true

/-- Too long, or a head that is out of range: true at once. -/
theorem walk_out (a : Option Addr) (n c : Nat) (h e : Int) (w : World) (hn : n ≤ 9223372036854775807) (ho : 65536 < n ∨ h < 0 ∨ (n : Int) < h) :
    Calls Try.prog 3 #[.slice a n c, .int .i64 h, .int .u64 e] w fun r w' => r = .returned (.bool true) ∧ Below w.heap.size w w' := by
  by_cases h1 : n ≤ 1048576
  · by_cases h2 : n ≤ 65536
    · by_cases h3 : h < 0
      · go_enter Try.func3, Try.ntmps3
        go_wp2_with (go_at_call 7; refine (bytes_any _ _ _ _ _ _ hn).mono ?_; rintro r w' ⟨rfl, rfl⟩)
        go_ret
        exact ⟨rfl, Below.refl _ _⟩
      · have h4 : (n : Int) < h := by omega
        go_enter Try.func3, Try.ntmps3
        go_wp2_with (go_at_call 7; refine (bytes_any _ _ _ _ _ _ hn).mono ?_; rintro r w' ⟨rfl, rfl⟩)
        go_ret
        exact ⟨rfl, Below.refl _ _⟩
    · go_enter Try.func3, Try.ntmps3
      go_wp2_with (go_at_call 7; refine (bytes_any _ _ _ _ _ _ hn).mono ?_; rintro r w' ⟨rfl, rfl⟩)
      go_ret
      exact ⟨rfl, Below.refl _ _⟩
  · go_enter Try.func3, Try.ntmps3
    go_wp2_with (go_at_call 7; refine (bytes_any _ _ _ _ _ _ hn).mono ?_; rintro r w' ⟨rfl, rfl⟩)
    go_ret
    exact ⟨rfl, Below.refl _ _⟩

/-- No number at all: nil, or of length 0. -/
theorem walk_zero (a : Option Addr) (c : Nat) (ha : a = none → c = 0) (e : Int) (w : World) :
    Calls Try.prog 3 #[.slice a 0 c, .int .i64 0, .int .u64 e] w fun r w' => r = .returned (.bool true) ∧ Below w.heap.size w w' := by
  have e0 : (IntKind.u64.wrap (e + 1) == IntKind.u64.wrap (IntKind.u64.wrap (e + 1))) = true := by simp [IntKind.wrap_u64]
  cases a with
  | none =>
    obtain rfl := ha rfl
    go_enter Try.func3, Try.ntmps3
    go_wp2_with (go_at_call 7; refine (bytes_any _ _ _ _ _ _ (by omega)).mono ?_; rintro r w' ⟨rfl, rfl⟩)
    refine wp_loop_rounds 1 ?_
    rw [rounds_succ]
    go_wp2_with (first | (go_at_call 8; refine (clone_nil _).mono ?_; rintro r w' ⟨rfl, rfl⟩) | (go_at_call 9; refine (seqOf_zero _ _ _ _).mono ?_; rintro r w' ⟨rfl, hb⟩))
    go_ret
    exact ⟨rfl, hb⟩
  | some x =>
    go_enter Try.func3, Try.ntmps3
    go_wp2_with (go_at_call 7; refine (bytes_any _ _ _ _ _ _ (by omega)).mono ?_; rintro r w' ⟨rfl, rfl⟩)
    refine wp_loop_rounds 1 ?_
    rw [rounds_succ]
    go_wp2_with (first | (go_at_call 8; refine (clone_empty _ _ _).mono ?_; rintro r w1 ⟨rfl, hb1, hs1⟩) | (go_at_call 9; refine (seqOf_zero _ _ _ _).mono ?_; rintro r w' ⟨rfl, hb⟩))
    go_ret
    exact ⟨rfl, hb1.trans (hb.mono (by omega))⟩

theorem last_eq (z e : Int) (n h : Nat) (hz : z = IntKind.u64.wrap (e - ((n : Int) - 1 - h))) : z = IntKind.u64.wrap (IntKind.u64.wrap (e + 1) - ((n : Int) - h)) := by
  subst hz
  simp only [IntKind.wrap_u64]
  omega

set_option maxHeartbeats 800000 in
theorem walk_some (b off n c : Nat) (h : Nat) (zs : Nat → Int) (e : Int) (w : World) (hn : n ≤ 65536) (hb : b < w.heap.size) (hh : h ≤ n)
   (hcell : ∀ i, i < n → w.cell? ⟨b, off + i, none⟩ = some (.int .u64 (zs i))) :
    Calls Try.prog 3 #[.slice (some ⟨b, off, none⟩) n c, .int .i64 h, .int .u64 e] w fun r w' => r = .returned (.bool true) ∧ Below w.heap.size w w' := by
  have H : Hid (∀ i, i < n → w.cell? ⟨b, off + i, none⟩ = some (.int .u64 (zs i))) := hcell
  clear hcell
  have h1 : n ≤ 1048576 := by omega
  have h2 : ¬ (n : Int) < (h : Int) := by omega
  go_enter Try.func3, Try.ntmps3
  go_wp2_with (go_at_call 7; refine (bytes_any _ _ _ _ _ _ (by omega)).mono ?_; rintro r w' ⟨rfl, rfl⟩)
  go_loop [8] (fun i => ∃ k : Nat, h ≤ k ∧ k ≤ n ∧ i = .int .i64 k ∧ ∀ j, h ≤ j → j < k → zs j = IntKind.u64.wrap (e - ((n : Int) - 1 - j))) (fun i => n - (intOf i).toNat)
  case atStart => exact ⟨h, Nat.le_refl _, hh, rfl, fun j h1 h2 => absurd h1 (by omega)⟩
  case round =>
    obtain ⟨k, hk0, hk, rfl, hrow⟩ := hrel
    have HR : Hid (∀ j, h ≤ j → j < k → zs j = IntKind.u64.wrap (e - ((n : Int) - 1 - j))) := hrow
    clear hrow
    by_cases hlt : k < n
    · have c1 : w.cell? ⟨b, off + k, none⟩ = some (.int .u64 (zs k)) := H.out k hlt
      by_cases hz : zs k = IntKind.u64.wrap (e - ((n : Int) - 1 - k))
      · have HZ : Hid (zs k = IntKind.u64.wrap (e - ((n : Int) - 1 - k))) := hz
        have hz' : (zs k != IntKind.u64.wrap (e - ((n : Int) - 1 - k))) = false := by simp [hz]
        clear hz
        go_wp2
        go_round
        case rel => exact ⟨k + 1, by omega, by omega, by go_num, fun j h1 h2 => by
          by_cases e : j = k
          · subst e; exact HZ.out
          · exact HR.out j h1 (by omega)⟩
        case measure => simp [intOf]; omega
      · have hz' : (zs k != IntKind.u64.wrap (e - ((n : Int) - 1 - k))) = true := by simpa using hz
        have HZ : Hid (¬ zs k = IntKind.u64.wrap (e - ((n : Int) - 1 - k))) := hz
        clear hz
        go_wp2
        go_ret
        exact ⟨rfl, Below.refl _ _⟩
    · have e0 : k = n := by omega
      subst e0
      have hf : (seqOf zs k h e == IntKind.u64.wrap (IntKind.u64.wrap (e + 1) - ((k : Int) - h))) = true := by
        unfold seqOf
        by_cases hh2 : h < k
        · rw [if_pos hh2]; simp only [beq_iff_eq]; exact last_eq _ _ _ _ (HR.out h (Nat.le_refl _) hh2)
        · rw [if_neg hh2, show h = k from by omega]; simp [IntKind.wrap_u64]
      go_wp2_with (go_at_call 8; refine (clone_some _ _ _ _ zs _ hn hb H.out).mono ?_; rintro r w1 ⟨rfl, hb1, hs1, hc1⟩)
      refine (seqOf_any _ _ _ _ zs _ _ hn (by omega) hc1).mono ?_
      rintro r w2 ⟨rfl, hb2⟩
      go_wp2
      go_ret
      exact ⟨by simp, hb1.trans (hb2.mono (by omega))⟩

theorem walk (a0 : Option Addr) (len0 cap0 : Nat) (z0 : List Int) (a1 : Int) (a2 : Int) (w : World) (w0 : IsRow .u64 w a0 len0 cap0 z0) (w1 : (Lit.int .i64 a1).wf = true) (w2 : (Lit.int .u64 a2).wf = true) :
    Calls Try.prog 3 #[.slice a0 len0 cap0, .int .i64 a1, .int .u64 a2] w fun e w' => e = .returned (.bool true) ∧ Below w.heap.size w w' := by
  rcases w0 with ⟨rfl, rfl, rfl, rfl⟩ | ⟨x, rfl, hl, hm, hz, hcell, hwz⟩
  · by_cases ho : (65536 < 0 ∨ a1 < 0 ∨ ((0 : Nat) : Int) < a1)
    · exact walk_out _ _ _ _ _ _ (by omega) ho
    · obtain rfl : a1 = 0 := by omega
      exact walk_zero _ _ (fun _ => rfl) _ _
  · unfold maxLen at hm
    by_cases ho : (65536 < len0 ∨ a1 < 0 ∨ (len0 : Int) < a1)
    · exact walk_out _ _ _ _ _ _ (by omega) ho
    · obtain ⟨h, rfl⟩ : ∃ h : Nat, a1 = (h : Int) := ⟨a1.toNat, by omega⟩
      by_cases h0 : len0 = 0
      · subst h0
        obtain rfl : h = 0 := by omega
        exact walk_zero _ _ (fun e => by cases e) _ _
      · obtain ⟨b, off, spot⟩ := x
        have hc0 := hcell 0 (by omega)
        have hspot : spot = none := by simpa [Addr.add] using World.cell?_spot hc0
        subst hspot
        have hcell' : ∀ i, i < len0 → w.cell? ⟨b, off + i, none⟩ = some (.int .u64 (z0.getD i 0)) := fun i hi => by rw [← add_plain]; exact hcell i (by omega)
        have hb : b < w.heap.size := block_lt_of_cell (hcell' 0 (by omega))
        exact walk_some b off len0 cap0 h (fun i => z0.getD i 0) a2 w (by omega) hb (by omega) hcell'

/-! ### THE ROW's STEP: WRITTEN OUT: LEAVE IT -/
set_option maxRecDepth 100000 in
theorem lifted (os : Os) (started : os.Started) (H : Type) (enc : TypeId × Value → H) :
    ReturnsInHanded {} Try.checked os 3 .any (Rows.fnFirstSeqCountsBackFromExpectedSpec.pre6 enc Try.prog Try.f3 Rows.fnFirstSeqCountsBackFromExpectedRow.domain false) (Rows.fnFirstSeqCountsBackFromExpectedSpec.post enc Try.prog Try.f3 false true false false) := by
  refine returnsInHanded_of_change (C := Try.checked) own started (by kernel_rfl) Try.func3
    (ChangeSpec.witness6 (enc := enc) (C := Try.checked) false ⟨#[], #[.slice none 0 0, .int .i64 0, .int .u64 0], []⟩ 8 (by kernel_rfl) (by kernel_rfl) (by kernel_rfl) (by kernel_rfl)) ?_
  intro W base args ds gs before hval0 hW hcnd _
  have hval : ∀ (j : Nat) t v, Try.f3.params[j]? = some t → args[j]? = some v → Value.okWide Try.prog W .any base t v := hval0
  have hW' := hW
  obtain ⟨p, q, hA0, hV, rfl, hfz, hnd⟩ := hW
  have hA : DataW.TrodAll enc Try.prog W 0 (fun _ => true) true Try.f3.params.toList args.toList ds p := hA0
  rw [Try.params3] at hA hval
  obtain ⟨v0, vs0, d0, ds0, p0, q0, hargs, rfl, rfl, h0, r0⟩ := trodAll_cons hA
  obtain ⟨v1, vs1, d1, ds1, p1, q1, rfl, rfl, rfl, h1, r1⟩ := trodAll_cons r0
  obtain ⟨v2, vs2, d2, ds2, p2, q2, rfl, rfl, rfl, h2, r2⟩ := trodAll_cons r1
  obtain ⟨rfl, rfl, rfl⟩ := trodAll_nil r2
  obtain rfl : args = #[v0, v1, v2] := by cases args; simp_all
  obtain ⟨rfl, rfl⟩ := trodVars_none hV
  obtain ⟨a0, len0, cap0, rfl⟩ := okWide_slice Try.underlying22 (hval 0 22 v0 rfl rfl)
  have k0 := h0
  have lt0 : ∀ x ∈ p0, x.block < W.heap.size := by obtain ⟨m, hm⟩ := k0; exact DataW.trod_lt m _ _ _ hm
  obtain ⟨z0, w0⟩ : ∃ zs, IsRow .u64 W a0 len0 cap0 zs := by
    obtain ⟨fuel, hf⟩ := h0
    rcases open_ints Try.underlying22 Try.underlying23 (by kernel_rfl) hf with ⟨hcs, _⟩ | ⟨x, l, c, zs, hcs, _, hl, hm, hz, _, hcell, hwz⟩
    · simp [Value.cells] at hcs
      obtain ⟨rfl, rfl, rfl⟩ := hcs
      exact ⟨[], .inl ⟨rfl, rfl, rfl, rfl⟩⟩
    · simp [Value.cells] at hcs
      obtain ⟨rfl, rfl, rfl⟩ := hcs
      exact ⟨zs, .inr ⟨_, rfl, hl, hm, by simpa using hz, hcell, hwz⟩⟩
  obtain ⟨a1, rfl, rfl, rfl, w1⟩ := open_int Try.underlying3 (hval 1 3 v1 rfl rfl) h1
  obtain ⟨a2, rfl, rfl, rfl, w2⟩ := open_int Try.underlying23 (hval 2 23 v2 rfl rfl) h2
  clear hA0 hval0
  refine (walk a0 len0 cap0 z0 a1 a2 W w0 w1 w2).mono fun e W' ⟨he, bel⟩ => ?_
  subst he
  exact ⟨_, rfl, _, _, _, [], _, [], hW', trodAll_mk1 (shut_bool Try.underlying4 _), (trodAll_cons_mk (Below.trod laidOut (by kernel_rfl) (of_decide_eq_true (by kernel_rfl)) k0 bel lt0) (trodAll_cons_mk (shut_int Try.underlying3 w1) (trodAll_cons_mk (shut_int Try.underlying23 w2) trodAll_mk0))), rfl, bel.frame _, fun h => by cases h⟩

theorem over : Rows.fnFirstSeqCountsBackFromExpectedRow.holds Try.pinned (OpenSpec.ofChange Rows.fnFirstSeqCountsBackFromExpectedSpec) :=
  OpenClaim.holds_of_wide 3 Try.f3 rfl rfl rfl rfl rfl rfl rfl ⟨rfl, rfl, rfl, rfl, rfl⟩ rfl rfl rfl rfl rfl (by kernel_rfl) Try.func3 (by kernel_rfl)
    (of_decide_eq_true (by kernel_rfl)) (by unfold Func.isWrapper; first | (rw [if_pos (by decide +kernel)]; kernel_rfl) | (rw [if_neg (by decide +kernel)]; exact ⟨rfl, rfl⟩))
    (fun os started H enc _ => lifted os started H enc)

/-- ████ THE STATEMENT ████ -/
theorem proved : Rows.FnFirstSeqCountsBackFromExpectedSaid := over
#print axioms proved
end Go.Proofs.Qxb6604503a.fnFirstSeqCountsBackFromExpected
