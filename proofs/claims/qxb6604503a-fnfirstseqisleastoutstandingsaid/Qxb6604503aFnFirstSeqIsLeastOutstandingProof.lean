/-
  THE PROOF OF 'Rows.FnFirstSeqIsLeastOutstandingSaid': the frame as the kit's proof-skeleton.mjs writes it for this function; the walk filled in.
-/
import Derived.Test.Qxb6604503aRows
import Derived.WalkKit
import Derived.ProofKit
import Derived.OpenShut
import Derived.ShutString
import Derived.ChangeOld
import Derived.Below
import Derived.Test.Qxb6604503aSeq
namespace Go.Proofs.Qxb6604503a.fnFirstSeqIsLeastOutstanding
open Go.ChangeShapes Go.WideShapes Go.ChangeAt Go.RowKit
open Go.ChangeMaps (open_string shut_string)
set_option linter.unusedVariables false

theorem own : ownKnob Try.prog.godebug = none := by kernel_rfl
theorem laidOut : laidOutB Try.prog = true := by kernel_rfl

/-- WHAT THE WALK IS TOLD OF A SLICE OF INTEGERS THAT CAME IN: it is nil; or it leads to a row of 'cap' cells, the numbers 'zs' (the first 'len' are its elements, the rest its spare room), each fitting its kind. -/
def IsRow (k : IntKind) (w : World) (a : Option Addr) (len cap : Nat) (zs : List Int) : Prop :=
  (a = none ∧ len = 0 ∧ cap = 0 ∧ zs = []) ∨
  ∃ x, a = some x ∧ len ≤ cap ∧ cap ≤ maxLen ∧ zs.length = cap ∧ (∀ i, i < zs.length → w.cell? (x.add i) = some (.int k (zs.getD i 0))) ∧ ∀ n ∈ zs, (Lit.int k n).wf = true

theorem wf_u64 {a : Int} (h : (Lit.int .u64 a).wf = true) : 0 ≤ a ∧ a ≤ 18446744073709551615 := by
  simpa [Lit.wf, IntKind.min, IntKind.max, IntKind.bits, IntKind.signed] using h

/-- Too long, a head that is out of range, or the greatest uint64 for 'expected': true at once. -/
theorem walk_out (a : Option Addr) (n c : Nat) (h e : Int) (w : World) (hn : n ≤ 9223372036854775807) (ho : 65536 < n ∨ h < 0 ∨ (n : Int) < h ∨ e = 18446744073709551615) :
    Calls Try.prog 4 #[.slice a n c, .int .i64 h, .int .u64 e] w fun r w' => r = .returned (.bool true) ∧ Below w.heap.size w w' := by
  by_cases h1 : n ≤ 1048576
  · by_cases h2 : n ≤ 65536
    · by_cases h3 : h < 0
      · clear ho
        go_enter Try.func4, Try.ntmps4
        go_wp2_with (go_at_call 10; refine (bytes2_any _ _ _ _ _ _ hn).mono ?_; rintro r w' ⟨rfl, rfl⟩)
        go_ret
        exact ⟨rfl, Below.refl _ _⟩
      · by_cases h4 : (n : Int) < h
        · clear ho
          go_enter Try.func4, Try.ntmps4
          go_wp2_with (go_at_call 10; refine (bytes2_any _ _ _ _ _ _ hn).mono ?_; rintro r w' ⟨rfl, rfl⟩)
          go_ret
          exact ⟨rfl, Below.refl _ _⟩
        · have h5 : (e == 18446744073709551615) = true := by simp; omega
          clear ho
          go_enter Try.func4, Try.ntmps4
          go_wp2_with (go_at_call 10; refine (bytes2_any _ _ _ _ _ _ hn).mono ?_; rintro r w' ⟨rfl, rfl⟩)
          go_ret
          exact ⟨rfl, Below.refl _ _⟩
    · clear ho
      go_enter Try.func4, Try.ntmps4
      go_wp2_with (go_at_call 10; refine (bytes2_any _ _ _ _ _ _ hn).mono ?_; rintro r w' ⟨rfl, rfl⟩)
      go_ret
      exact ⟨rfl, Below.refl _ _⟩
  · clear ho
    go_enter Try.func4, Try.ntmps4
    go_wp2_with (go_at_call 10; refine (bytes2_any _ _ _ _ _ _ hn).mono ?_; rintro r w' ⟨rfl, rfl⟩)
    go_ret
    exact ⟨rfl, Below.refl _ _⟩

/-- No number at all: nil, or of length 0. -/
theorem walk_zero (a : Option Addr) (c : Nat) (ha : a = none → c = 0) (e : Int) (w : World) (he0 : 0 ≤ e) (he1 : e ≤ 18446744073709551614) :
    Calls Try.prog 4 #[.slice a 0 c, .int .i64 0, .int .u64 e] w fun r w' => r = .returned (.bool true) ∧ Below w.heap.size w w' := by
  have h5 : (e == 18446744073709551615) = false := by simp; omega
  have e0 : IntKind.u64.wrap (e + 1) = e + 1 := by rw [IntKind.wrap_u64]; omega
  have e1 : (e + 1 != e + 1) = false := by simp
  have hs : ∀ (a : Option Addr) (c : Nat) (w : World), Calls Try.prog 9 #[.slice a 0 c, .int .i64 0, .int .u64 e] w fun r w' => r = .returned (.int .u64 (e + 1)) ∧ Below w.heap.size w w' := fun a c w => by
    have := seqOf_zero a c e w
    rw [e0] at this
    exact this
  clear e0
  cases a with
  | none =>
    obtain rfl := ha rfl
    go_enter Try.func4, Try.ntmps4
    go_wp2_with (go_at_call 10; refine (bytes2_any _ _ _ _ _ _ (by omega)).mono ?_; rintro r w' ⟨rfl, rfl⟩)
    refine wp_loop_rounds 1 ?_
    rw [rounds_succ]
    go_wp2_with (first | (go_at_call 8; refine (clone_nil _).mono ?_; rintro r w' ⟨rfl, rfl⟩) | (go_at_call 9; refine (hs _ _ _).mono ?_; rintro r w' ⟨rfl, hb⟩))
    refine wp_loop_rounds 1 ?_
    rw [rounds_succ]
    go_wp2
    go_ret
    exact ⟨rfl, hb⟩
  | some x =>
    go_enter Try.func4, Try.ntmps4
    go_wp2_with (go_at_call 10; refine (bytes2_any _ _ _ _ _ _ (by omega)).mono ?_; rintro r w' ⟨rfl, rfl⟩)
    refine wp_loop_rounds 1 ?_
    rw [rounds_succ]
    go_wp2_with (first | (go_at_call 8; refine (clone_empty _ _ _).mono ?_; rintro r w1 ⟨rfl, hb1, hs1⟩) | (go_at_call 9; refine (hs _ _ _).mono ?_; rintro r w' ⟨rfl, hb⟩))
    refine wp_loop_rounds 1 ?_
    rw [rounds_succ]
    go_wp2
    go_ret
    exact ⟨rfl, hb1.trans (hb.mono (by omega))⟩

/-- What the first loop has seen of the numbers from h up to k. -/
def Seen (zs : Nat → Int) (h : Nat) (e : Int) (k : Nat) : Prop := ∀ j, h ≤ j → j < k → zs j ≤ e ∧ (h < j → zs (j - 1) < zs j)

theorem Seen.step {zs : Nat → Int} {h : Nat} {e : Int} {k : Nat} (s : Seen zs h e k) (h1 : zs k ≤ e) (h2 : h < k → zs (k - 1) < zs k) : Seen zs h e (k + 1) := by
  intro j hj hk
  by_cases x : j = k
  · subst x; exact ⟨h1, h2⟩
  · exact s j hj (by omega)

theorem Seen.far {zs : Nat → Int} {h : Nat} {e : Int} {n : Nat} (s : Seen zs h e n) : ∀ d, h + d < n → zs h + d ≤ zs (h + d)
  | 0, _ => by simp
  | d + 1, hd => by
    have a := Seen.far s d (by omega)
    have b := (s (h + (d + 1)) (by omega) hd).2 (by omega)
    have c : h + (d + 1) - 1 = h + d := by omega
    rw [c] at b
    omega

/-- The least number: behind the round at k. -/
def least (zs : Nat → Int) (h : Nat) (e : Int) (k : Nat) : Int := if k ≤ h then e + 1 else zs h

theorem least_step {zs : Nat → Int} {h : Nat} {e : Int} {n k : Nat} (s : Seen zs h e n) (hk : h ≤ k) (hn : k < n) :
    (k = h → zs k < least zs h e k ∧ least zs h e (k + 1) = zs k) ∧ (k ≠ h → ¬ zs k < least zs h e k ∧ least zs h e (k + 1) = least zs h e k) := by
  constructor
  · intro x
    subst x
    have := (s k (Nat.le_refl _) hn).1
    unfold least
    rw [if_pos (Nat.le_refl _), if_neg (by omega)]
    exact ⟨by omega, rfl⟩
  · intro x
    have a := s.far (k - h) (by omega)
    rw [show h + (k - h) = k from by omega] at a
    unfold least
    rw [if_neg (by omega), if_neg (by omega)]
    exact ⟨by omega, rfl⟩

theorem room {zs : Nat → Int} {h : Nat} {e : Int} {n : Nat} (s : Seen zs h e n) (hh : h ≤ n) : (n : Int) - h ≤ e + 1 - least zs h e n := by
  unfold least
  by_cases x : n ≤ h
  · rw [if_pos x]; omega
  · rw [if_neg x]
    have a := s.far (n - 1 - h) (by omega)
    rw [show h + (n - 1 - h) = n - 1 from by omega] at a
    have b := (s (n - 1) (by omega) (by omega)).1
    omega

set_option maxHeartbeats 800000 in
theorem walk_some (b off n c : Nat) (h : Nat) (zs : Nat → Int) (e : Int) (w : World) (hn : n ≤ 65536) (hb : b < w.heap.size) (hh : h ≤ n) (he0 : 0 ≤ e) (he1 : e ≤ 18446744073709551614)
   (hcell : ∀ i, i < n → w.cell? ⟨b, off + i, none⟩ = some (.int .u64 (zs i))) (hpos : ∀ i, i < n → 0 ≤ zs i) :
    Calls Try.prog 4 #[.slice (some ⟨b, off, none⟩) n c, .int .i64 h, .int .u64 e] w fun r w' => r = .returned (.bool true) ∧ Below w.heap.size w w' := by
  have H : Hid (∀ i, i < n → w.cell? ⟨b, off + i, none⟩ = some (.int .u64 (zs i))) := hcell
  have HP : Hid (∀ i, i < n → 0 ≤ zs i) := hpos
  clear hcell hpos
  have h1 : n ≤ 1048576 := by omega
  have h2 : ¬ (n : Int) < (h : Int) := by omega
  have h5 : (e == 18446744073709551615) = false := by simp; omega
  go_enter Try.func4, Try.ntmps4
  go_wp2_with (go_at_call 10; refine (bytes2_any _ _ _ _ _ _ (by omega)).mono ?_; rintro r w' ⟨rfl, rfl⟩)
  go_loopw [8] (fun i wr => ∃ k q : Nat, h ≤ k ∧ k ≤ n ∧ i = .int .i64 k ∧ wr = w.drewN q ∧ Seen zs h e k) (fun i _ => n - (intOf i).toNat)
  case atStart => exact ⟨h, 0, Nat.le_refl _, hh, rfl, rfl, fun j h1 h2 => absurd h1 (by omega)⟩
  case round =>
    obtain ⟨k, q, hk0, hk, rfl, rfl, hrow⟩ := hrel
    by_cases hlt : k < n
    · have c1 : w.cell? ⟨b, off + k, none⟩ = some (.int .u64 (zs k)) := H.out k hlt
      by_cases hz : zs k ≤ e
      · by_cases hg : h < k
        · have c2 : w.cell? ⟨b, off + (k - 1), none⟩ = some (.int .u64 (zs (k - 1))) := H.out (k - 1) (by omega)
          have hd : decide ((h : Int) < (k : Int)) = true := by simpa using hg
          have hk1 : (k : Int) - 1 = ((k - 1 : Nat) : Int) := by omega
          go_wp2
          go_quiet (fail)
          go_wp2
          · go_ret
            exact ⟨rfl, below_drewN (below_drewN (Below.refl _ _) _) _⟩
          · go_roundw
            case rel => exact ⟨k + 1, q + nq, by omega, by omega, by go_num, rfl, hrow.step hz (fun _ => ‹_›)⟩
            case measure => simp [intOf]; omega
        · have hd : decide ((h : Int) < (k : Int)) = false := by simpa using hg
          go_wp2
          go_quiet (fail)
          go_wp2
          go_roundw
          case rel => exact ⟨k + 1, q + nq, by omega, by omega, by go_num, rfl, hrow.step hz (fun x => absurd x hg)⟩
          case measure => simp [intOf]; omega
      · go_wp2
        go_ret
        exact ⟨rfl, below_drewN (Below.refl _ _) _⟩
    · have e0 : k = n := by omega
      subst e0
      have e1 : IntKind.u64.wrap (e + 1) = e + 1 := by rw [IntKind.wrap_u64]; omega
      have hs : seqOf zs k h e = least zs h e k := by
        unfold seqOf least
        by_cases x : h < k
        · rw [if_pos x, if_neg (by omega)]
        · rw [if_neg x, if_pos (by omega), e1]
      have HW : Hid (∀ i, i < k → (w.drewN q).cell? ⟨b, off + i, none⟩ = some (.int .u64 (zs i))) := fun i hi => H.out i hi
      have hro := room hrow hh
      have hlo : 0 ≤ least zs h e k := by
        unfold least
        by_cases x : k ≤ h
        · rw [if_pos x]; omega
        · rw [if_neg x]; exact HP.out h (by omega)
      have HSQ : Hid (seqOf zs k h e = least zs h e k) := hs
      clear hs e1
      go_wp2_with fail
      refine (clone_some b off k c zs (w.drewN q) hn hb HW.out).mono ?_
      rintro r w1 ⟨rfl, hbx, hsx, hc1⟩
      have HC1 : Hid (∀ i, i < k → w1.cell? ⟨w.heap.size, i, none⟩ = some (.int .u64 (zs i))) := hc1
      have hb1 : Below w.heap.size w w1 := (below_drewN (Below.refl _ w) q).trans hbx
      have hs1 : w1.heap.size = w.heap.size + 1 := hsx
      clear hc1 hbx hsx
      go_wp2_with fail
      refine (seqOf_any w.heap.size k k h zs e w1 hn (by omega) HC1.out).mono ?_
      rintro r w2 ⟨rfl, hb2⟩
      rw [HSQ.out]
      have HC2 : Hid (∀ i, i < k → w2.cell? ⟨w.heap.size, i, none⟩ = some (.int .u64 (zs i))) := fun i hi => by rw [hb2.cell (p := ⟨w.heap.size, i, none⟩) (by simp; omega)]; exact HC1.out i hi
      go_wp2
      go_loop [10, 11] (fun m i => ∃ t : Nat, h ≤ t ∧ t ≤ k ∧ i = .int .i64 t ∧ m = .int .u64 (least zs h e t)) (fun _ i => k - (intOf i).toNat)
      case atStart => exact ⟨h, Nat.le_refl _, hh, rfl, by simp [least]⟩
      case round =>
        obtain ⟨t, ht0, ht, rfl, rfl⟩ := hrel
        by_cases hlt : t < k
        · have c1 : w2.cell? ⟨w.heap.size, t, none⟩ = some (.int .u64 (zs t)) := HC2.out t hlt
          have hst := least_step hrow ht0 hlt
          by_cases x : t = h
          · obtain ⟨y1, y2⟩ := hst.1 x
            have HY : Hid (least zs h e (t + 1) = zs t) := y2
            have HX : Hid (t = h) := x
            clear y2 hst x
            go_wp2
            go_round
            case rel => exact ⟨t + 1, by omega, by omega, by go_num, by rw [HY.out]⟩
            case measure => simp [intOf]; omega
          · obtain ⟨y1, y2⟩ := hst.2 x
            have HY : Hid (least zs h e (t + 1) = least zs h e t) := y2
            clear y2 hst
            go_wp2
            go_round
            case rel => exact ⟨t + 1, by omega, by omega, by go_num, by rw [HY.out]⟩
            case measure => simp [intOf]; omega
        · have e0 : t = k := by omega
          subst e0
          have en : (least zs h e t != least zs h e t) = false := by simp
          go_wp2
          go_ret
          exact ⟨rfl, hb1.trans (hb2.mono (by omega))⟩

theorem walk (a0 : Option Addr) (len0 cap0 : Nat) (z0 : List Int) (a1 : Int) (a2 : Int) (w : World) (w0 : IsRow .u64 w a0 len0 cap0 z0) (w1 : (Lit.int .i64 a1).wf = true) (w2 : (Lit.int .u64 a2).wf = true) :
    Calls Try.prog 4 #[.slice a0 len0 cap0, .int .i64 a1, .int .u64 a2] w fun e w' => e = .returned (.bool true) ∧ Below w.heap.size w w' := by
  have he : 0 ≤ a2 ∧ a2 ≤ 18446744073709551615 := wf_u64 w2
  rcases w0 with ⟨rfl, rfl, rfl, rfl⟩ | ⟨x, rfl, hl, hm, hz, hcell, hwz⟩
  · by_cases ho : (65536 < 0 ∨ a1 < 0 ∨ ((0 : Nat) : Int) < a1 ∨ a2 = 18446744073709551615)
    · exact walk_out _ _ _ _ _ _ (by omega) ho
    · obtain rfl : a1 = 0 := by omega
      exact walk_zero _ _ (fun _ => rfl) _ _ (by omega) (by omega)
  · unfold maxLen at hm
    by_cases ho : (65536 < len0 ∨ a1 < 0 ∨ (len0 : Int) < a1 ∨ a2 = 18446744073709551615)
    · exact walk_out _ _ _ _ _ _ (by omega) ho
    · obtain ⟨h, rfl⟩ : ∃ h : Nat, a1 = (h : Int) := ⟨a1.toNat, by omega⟩
      by_cases h0 : len0 = 0
      · subst h0
        obtain rfl : h = 0 := by omega
        exact walk_zero _ _ (fun e => by cases e) _ _ (by omega) (by omega)
      · obtain ⟨b, off, spot⟩ := x
        have hc0 := hcell 0 (by omega)
        have hspot : spot = none := by simpa [Addr.add] using World.cell?_spot hc0
        subst hspot
        have hcell' : ∀ i, i < len0 → w.cell? ⟨b, off + i, none⟩ = some (.int .u64 (z0.getD i 0)) := fun i hi => by rw [← add_plain]; exact hcell i (by omega)
        have hb : b < w.heap.size := block_lt_of_cell (hcell' 0 (by omega))
        have hpos : ∀ i, i < len0 → 0 ≤ z0.getD i 0 := fun i hi => by
          have hi' : i < z0.length := by omega
          have h := hwz z0[i] (List.getElem_mem hi')
          have := wf_u64 h
          simpa [List.getD_eq_getElem?_getD, List.getElem?_eq_getElem hi'] using this.1
        exact walk_some b off len0 cap0 h (fun i => z0.getD i 0) a2 w (by omega) hb (by omega) (by omega) (by omega) hcell' hpos

/-! ### THE ROW's STEP: WRITTEN OUT: LEAVE IT -/
set_option maxRecDepth 100000 in
theorem lifted (os : Os) (started : os.Started) (H : Type) (enc : TypeId × Value → H) :
    ReturnsInHanded {} Try.checked os 4 .any (Rows.fnFirstSeqIsLeastOutstandingSpec.pre6 enc Try.prog Try.f4 Rows.fnFirstSeqIsLeastOutstandingRow.domain false) (Rows.fnFirstSeqIsLeastOutstandingSpec.post enc Try.prog Try.f4 false true false false) := by
  refine returnsInHanded_of_change (C := Try.checked) own started (by kernel_rfl) Try.func4
    (ChangeSpec.witness6 (enc := enc) (C := Try.checked) false ⟨#[], #[.slice none 0 0, .int .i64 0, .int .u64 0], []⟩ 8 (by kernel_rfl) (by kernel_rfl) (by kernel_rfl) (by kernel_rfl)) ?_
  intro W base args ds gs before hval0 hW hcnd _
  have hval : ∀ (j : Nat) t v, Try.f4.params[j]? = some t → args[j]? = some v → Value.okWide Try.prog W .any base t v := hval0
  have hW' := hW
  obtain ⟨p, q, hA0, hV, rfl, hfz, hnd⟩ := hW
  have hA : DataW.TrodAll enc Try.prog W 0 (fun _ => true) true Try.f4.params.toList args.toList ds p := hA0
  rw [Try.params4] at hA hval
  obtain ⟨v0, vs0, d0, ds0, p0, q0, hargs, rfl, rfl, h0, r0⟩ := trodAll_cons hA
  obtain ⟨v1, vs1, d1, ds1, p1, q1, rfl, rfl, rfl, h1, r1⟩ := trodAll_cons r0
  obtain ⟨v2, vs2, d2, ds2, p2, q2, rfl, rfl, rfl, h2, r2⟩ := trodAll_cons r1
  obtain ⟨rfl, rfl, rfl⟩ := trodAll_nil r2
  obtain rfl : args = #[v0, v1, v2] := by cases args; simp_all
  obtain ⟨rfl, rfl⟩ := trodVars_none hV
  obtain ⟨a0, len0, cap0, rfl⟩ := okWide_slice Try.underlying22 (hval 0 22 v0 rfl rfl)
  have k0 := h0
  have lt0 : ∀ x ∈ p0, x.block < W.heap.size := by obtain ⟨m, hm⟩ := k0; exact DataW.trod_lt m _ _ _ hm
  obtain ⟨z0, w0⟩ : ∃ zs, IsRow .u64 W a0 len0 cap0 zs := by
    obtain ⟨fuel, hf⟩ := h0
    rcases open_ints Try.underlying22 Try.underlying23 (by kernel_rfl) hf with ⟨hcs, _⟩ | ⟨x, l, c, zs, hcs, _, hl, hm, hz, _, hcell, hwz⟩
    · simp [Value.cells] at hcs
      obtain ⟨rfl, rfl, rfl⟩ := hcs
      exact ⟨[], .inl ⟨rfl, rfl, rfl, rfl⟩⟩
    · simp [Value.cells] at hcs
      obtain ⟨rfl, rfl, rfl⟩ := hcs
      exact ⟨zs, .inr ⟨_, rfl, hl, hm, by simpa using hz, hcell, hwz⟩⟩
  obtain ⟨a1, rfl, rfl, rfl, w1⟩ := open_int Try.underlying3 (hval 1 3 v1 rfl rfl) h1
  obtain ⟨a2, rfl, rfl, rfl, w2⟩ := open_int Try.underlying23 (hval 2 23 v2 rfl rfl) h2
  clear hA0 hval0
  refine (walk a0 len0 cap0 z0 a1 a2 W w0 w1 w2).mono fun e W' ⟨he, bel⟩ => ?_
  subst he
  exact ⟨_, rfl, _, _, _, [], _, [], hW', trodAll_mk1 (shut_bool Try.underlying4 _), (trodAll_cons_mk (Below.trod laidOut (by kernel_rfl) (of_decide_eq_true (by kernel_rfl)) k0 bel lt0) (trodAll_cons_mk (shut_int Try.underlying3 w1) (trodAll_cons_mk (shut_int Try.underlying23 w2) trodAll_mk0))), rfl, bel.frame _, fun h => by cases h⟩

theorem over : Rows.fnFirstSeqIsLeastOutstandingRow.holds Try.pinned (OpenSpec.ofChange Rows.fnFirstSeqIsLeastOutstandingSpec) :=
  OpenClaim.holds_of_wide 4 Try.f4 rfl rfl rfl rfl rfl rfl rfl ⟨rfl, rfl, rfl, rfl, rfl⟩ rfl rfl rfl rfl rfl (by kernel_rfl) Try.func4 (by kernel_rfl)
    (of_decide_eq_true (by kernel_rfl)) (by unfold Func.isWrapper; first | (rw [if_pos (by decide +kernel)]; kernel_rfl) | (rw [if_neg (by decide +kernel)]; exact ⟨rfl, rfl⟩))
    (fun os started H enc _ => lifted os started H enc)

/-- ████ THE STATEMENT ████ -/
theorem proved : Rows.FnFirstSeqIsLeastOutstandingSaid := over
#print axioms proved
end Go.Proofs.Qxb6604503a.fnFirstSeqIsLeastOutstanding
