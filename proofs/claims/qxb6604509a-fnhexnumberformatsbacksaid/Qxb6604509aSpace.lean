/-
  WHAT THE LAWS OF THIS SEAT SHARE: the bounds on lengths (7, 11, 12, 15), the copy of the bytes (8), white space (9, 10, 18), and the plain laws of where white space ends.
-/
import Derived.Test.Qxb6604509aProg
import Derived.WalkKit
import Derived.ProofKit
import Derived.Handy
import Derived.Deep.QuietTactic
import Derived.BigQuiet
import Derived.WalkSpells
import Derived.WalkSmall
namespace Go.Proofs.Qxb6604509a
open Go.ChangeShapes Go.WideShapes Go.ChangeAt Go.RowKit

theorem wf_u8 {a : Int} (h : (Lit.int .u8 a).wf = true) : 0 ≤ a ∧ a ≤ 255 := by
  simpa [Lit.wf, IntKind.min, IntKind.max, IntKind.bits, IntKind.signed] using h
theorem wf_i64 {a : Int} (h : (Lit.int .i64 a).wf = true) : -9223372036854775808 ≤ a ∧ a ≤ 9223372036854775807 := by
  simpa [Lit.wf, IntKind.min, IntKind.max, IntKind.bits, IntKind.signed] using h

theorem Try.info5 : (Try.prog.info? 5).map (fun i => (i.zero, i.size, i.bytes)) = some (some (.int .u8 0), 1, 1) := by kernel_rfl

/-! ### The bounds on lengths -/
theorem bytes7 (a : Option Addr) (n c : Nat) (h : Int) (w : World) (hn : n ≤ 9223372036854775807) :
    Calls Try.prog 7 #[.slice a n c, .int .i64 h] w fun r w' => r = .returned (.bool (decide (n ≤ 1048576))) ∧ w = w' := by
  by_cases h1 : n ≤ 1048576
  · go_enter Try.func7, Try.ntmps7
    go_wp2
    go_ret
    exact ⟨by simp [h1], rfl⟩
  · go_enter Try.func7, Try.ntmps7
    go_wp2
    go_ret
    exact ⟨by simp [h1], rfl⟩

theorem bytes11 (a : Option Addr) (n c : Nat) (h : Int) (w : World) (hn : n ≤ 9223372036854775807) :
    Calls Try.prog 11 #[.slice a n c, .int .i64 h] w fun r w' => r = .returned (.bool (decide (n ≤ 1048576))) ∧ w = w' := by
  by_cases h1 : n ≤ 1048576
  · go_enter Try.func11, Try.ntmps11
    go_wp2
    go_ret
    exact ⟨by simp [h1], rfl⟩
  · go_enter Try.func11, Try.ntmps11
    go_wp2
    go_ret
    exact ⟨by simp [h1], rfl⟩

theorem bytes12 (a : Option Addr) (n c : Nat) (h : Int) (w : World) (hn : n ≤ 9223372036854775807) :
    Calls Try.prog 12 #[.slice a n c, .int .i64 h] w fun r w' => r = .returned (.bool (decide (n ≤ 1048576))) ∧ w = w' := by
  by_cases h1 : n ≤ 1048576
  · go_enter Try.func12, Try.ntmps12
    go_wp2
    go_ret
    exact ⟨by simp [h1], rfl⟩
  · go_enter Try.func12, Try.ntmps12
    go_wp2
    go_ret
    exact ⟨by simp [h1], rfl⟩

theorem bytes15 (a : Option Addr) (n c : Nat) (h : Int) (w : World) (hn : n ≤ 9223372036854775807) :
    Calls Try.prog 15 #[.slice a n c, .int .i64 h] w fun r w' => r = .returned (.bool (decide (n ≤ 1048576))) ∧ w = w' := by
  by_cases h1 : n ≤ 1048576
  · go_enter Try.func15, Try.ntmps15
    go_wp2
    go_ret
    exact ⟨by simp [h1], rfl⟩
  · go_enter Try.func15, Try.ntmps15
    go_wp2
    go_ret
    exact ⟨by simp [h1], rfl⟩

/-! ### The copy -/
set_option maxHeartbeats 400000 in
theorem clone_nil (w : World) : Calls Try.prog 8 #[.slice none 0 0] w fun r w' => r = .returned (.slice none 0 0) ∧ w = w' := by
  have hq := fun W : World => Lib.run_eql_slice_nil (P := Try.prog) W 22 5 none 0 0 0 0 Try.underlying22
  go_enter Try.func8, Try.ntmps8
  go_wp2
  go_ret
  exact ⟨rfl, rfl⟩

set_option maxHeartbeats 400000 in
theorem clone_some (b off n c : Nat) (zs : Nat → Int) (w : World) (hn : n ≤ 1048576) (hb : b < w.heap.size)
   (hcell : ∀ i, i < n → w.cell? ⟨b, off + i, none⟩ = some (.int .u8 (zs i))) :
   Calls Try.prog 8 #[.slice (some ⟨b, off, none⟩) n c] w fun r w' => r = .returned (.slice (some ⟨w.heap.size, 0, none⟩) n n) ∧ Below w.heap.size w w' ∧ w'.heap.size = w.heap.size + 1 ∧
     (∀ i, i < n → w'.cell? ⟨w.heap.size, i, none⟩ = some (.int .u8 (zs i))) := by
  obtain ⟨i0, hi, hz0, hz1, hz2⟩ := info_parts Try.info5
  obtain ⟨M, hM⟩ : ∃ M, M = madeCells (Value.int .u8 0).cells (((n : Nat) : Int).toNat * i0.size) := ⟨_, rfl⟩
  have hMs : M.size = n := by rw [hM, size_madeCells, hz1]; simp
  have hmk : ∀ W : World, (Instr.makeSlice 22 (.int .i64 (n : Int)) (.int .i64 (n : Int))).run Try.prog W = .ok (.slice (some ⟨W.heap.size, 0, none⟩) n n) (W.alloc (.cells M 5)) := fun W => by
    have h := run_make (P := Try.prog) W 22 5 i0 (.int .u8 0) Try.underlying22 hi hz0 .i64 .i64 (n : Int) (n : Int) (by omega) (by omega) (by rw [hz2]; omega) (by omega)
    rw [← hM] at h
    simpa using h
  clear hM
  have hq := fun W : World => Lib.run_eql_slice_nil (P := Try.prog) W 22 5 (some ⟨b, off, none⟩) n c 0 0 Try.underlying22
  have H : Hid (∀ i, i < n → w.cell? ⟨b, off + i, none⟩ = some (.int .u8 (zs i))) := hcell
  clear hcell
  go_enter Try.func8, Try.ntmps8
  go_wp2
  go_loopw [4] (fun i wr => ∃ k : Nat, k ≤ n ∧ i = .int .i64 k ∧ Below w.heap.size w wr ∧ wr.heap.size = w.heap.size + 1 ∧ ∃ cs, wr.heap[w.heap.size]? = some (.cells cs 5 (0, 0)) ∧ cs.size = n ∧ ∀ j, j < k → cs[j]? = some (.int .u8 (zs j))) (fun i _ => n - (intOf i).toNat)
  case atStart => exact ⟨0, Nat.zero_le _, rfl, (Below.refl _ _).alloc (Nat.le_refl _) _, by simp, M, heap_alloc_new _ _, hMs, fun j hj => absurd hj (by omega)⟩
  case round =>
    obtain ⟨k, hk, rfl, hbel, hsz, cs, hcs, hcn, hcl⟩ := hrel
    by_cases hlt : k < n
    · have c1 : wr.cell? ⟨b, off + k, none⟩ = some (.int .u8 (zs k)) := by rw [hbel.cell (p := ⟨b, off + k, none⟩) hb]; exact H.out k hlt
      have c2 : wr.cell? ⟨w.heap.size, k, none⟩ = some cs[k] := by rw [cell_of_row wr _ _ cs 5 (0, 0) hcs]; simp [hcn, hlt]
      have c3 : wr.frozen? ⟨w.heap.size, k, none⟩ = false := by simp [World.frozen?, hcs]
      have HC : Hid (∀ j, j < k → cs[j]? = some (.int .u8 (zs j))) := hcl
      have HS : Hid (wr.heap[w.heap.size]? = some (.cells cs 5 (0, 0))) := hcs
      clear hcl hcs
      go_wp2
      go_roundw
      case rel =>
        refine ⟨k + 1, by omega, by go_num, hbel.setCell (Nat.le_refl _) _, by simp [hsz], _, heap_setCell_same wr _ _ cs 5 _ HS.out, by simp [hcn], ?_⟩
        intro j hj
        by_cases e : j = k
        · subst e; simp [hcn, hlt]
        · have := HC.out j (by omega)
          rw [Array.getElem?_setIfInBounds_ne (by omega)]; exact this
      case measure => simp [intOf]; omega
    · have e : k = n := by omega
      subst e
      go_wp2
      go_ret
      refine ⟨rfl, hbel, hsz, fun i h => ?_⟩
      rw [cell_of_row wr _ _ cs 5 (0, 0) hcs]; exact hcl i h

set_option maxHeartbeats 400000 in
theorem clone_empty (x : Addr) (c : Nat) (w : World) :
   Calls Try.prog 8 #[.slice (some x) 0 c] w fun r w' => r = .returned (.slice (some ⟨w.heap.size, 0, none⟩) 0 0) ∧ Below w.heap.size w w' ∧ w'.heap.size = w.heap.size + 1 := by
  obtain ⟨i0, hi, hz0, hz1, hz2⟩ := info_parts Try.info5
  have hmk : ∀ W : World, (Instr.makeSlice 22 (.int .i64 0) (.int .i64 0)).run Try.prog W = .ok (.slice (some ⟨W.heap.size, 0, none⟩) 0 0) (W.alloc (.cells #[] 5)) := fun W => by
    have h := run_make (P := Try.prog) W 22 5 i0 (.int .u8 0) Try.underlying22 hi hz0 .i64 .i64 0 0 (by omega) (by omega) (by rw [hz2]; omega) (by omega)
    simpa [madeCells, Array.range_zero'] using h
  have hq := fun W : World => Lib.run_eql_slice_nil (P := Try.prog) W 22 5 (some x) 0 c 0 0 Try.underlying22
  go_enter Try.func8, Try.ntmps8
  go_wp2
  go_rounds 1
  go_ret
  exact ⟨rfl, (Below.refl _ _).alloc (Nat.le_refl _) _, by simp⟩

/-- WHAT A COPY IS, nil or not: a slice of n bytes, the first n of zs, at a block that is new (where n is not 0), from whose start it counts. -/
def IsBytes (w : World) (a : Option Addr) (n : Nat) (zs : Nat → Int) : Prop :=
  n = 0 ∨ ∃ A, a = some ⟨A, 0, none⟩ ∧ A < w.heap.size ∧ ∀ i, i < n → w.cell? ⟨A, i, none⟩ = some (.int .u8 (zs i))

/-- What came in: nil, empty, or a row of bytes. -/
def CameIn (w : World) (a : Option Addr) (n c : Nat) (zs : Nat → Int) : Prop :=
  (a = none ∧ n = 0 ∧ c = 0) ∨ (n = 0 ∧ ∃ x, a = some x) ∨ ∃ b off, a = some ⟨b, off, none⟩ ∧ b < w.heap.size ∧ ∀ i, i < n → w.cell? ⟨b, off + i, none⟩ = some (.int .u8 (zs i))

theorem clone_any (a : Option Addr) (n c : Nat) (zs : Nat → Int) (w : World) (hn : n ≤ 1048576) (h : CameIn w a n c zs) :
   Calls Try.prog 8 #[.slice a n c] w fun r w' => ∃ a' c', r = .returned (.slice a' n c') ∧ n ≤ c' ∧ Below w.heap.size w w' ∧ IsBytes w' a' n zs := by
  rcases h with ⟨rfl, rfl, rfl⟩ | ⟨rfl, x, rfl⟩ | ⟨b, off, rfl, hb, hc⟩
  · refine (clone_nil w).mono ?_
    rintro r w' ⟨rfl, rfl⟩
    exact ⟨_, _, rfl, Nat.le_refl _, Below.refl _ _, .inl rfl⟩
  · refine (clone_empty x c w).mono ?_
    rintro r w' ⟨rfl, hb, hs⟩
    exact ⟨_, _, rfl, Nat.le_refl _, hb, .inl rfl⟩
  · refine (clone_some b off n c zs w hn hb hc).mono ?_
    rintro r w' ⟨rfl, hb, hs, hc⟩
    exact ⟨_, _, rfl, Nat.le_refl _, hb, .inr ⟨_, rfl, by omega, hc⟩⟩

/-! ### White space -/
def isSp (c : Int) : Bool := c == 32 || c == 9 || c == 10 || c == 13

/-- From k on, at most d bytes: where the white space ends. -/
def spEnd (zs : Nat → Int) : Nat → Nat → Nat
  | 0, k => k
  | d + 1, k => if isSp (zs k) = true then spEnd zs d (k + 1) else k

/-- Where 'space' stops over n bytes, from k. -/
def jump (zs : Nat → Int) (n k : Nat) : Nat := spEnd zs (n - k) k

theorem jump_go {zs : Nat → Int} {n k : Nat} (h : k < n) (hs : isSp (zs k) = true) : jump zs n k = jump zs n (k + 1) := by
  unfold jump
  rw [show n - k = (n - (k + 1)) + 1 from by omega]
  simp only [spEnd, hs, if_true]

theorem jump_stop {zs : Nat → Int} {n k : Nat} (hs : isSp (zs k) = false) : jump zs n k = k := by
  unfold jump
  cases n - k <;> simp [spEnd, hs]

theorem jump_end {zs : Nat → Int} {n k : Nat} (h : n ≤ k) : jump zs n k = k := by
  unfold jump
  rw [show n - k = 0 from by omega]
  rfl

theorem isSp_yes {c : Int} (h : c = 32 ∨ c = 9 ∨ c = 10 ∨ c = 13) : isSp c = true := by simpa [isSp, or_assoc] using h
theorem isSp_no {c : Int} (h1 : ¬ c = 32) (h2 : ¬ c = 9) (h3 : ¬ c = 10) (h4 : ¬ c = 13) : isSp c = false := by simp [isSp, h1, h2, h3, h4]

theorem isSp_1 {c : Int} (h : (c == 32) = true) : isSp c = true := isSp_yes (.inl (by simpa using h))
theorem isSp_2 {c : Int} (h : (c == 9) = true) : isSp c = true := isSp_yes (.inr (.inl (by simpa using h)))
theorem isSp_3 {c : Int} (h : (c == 10) = true) : isSp c = true := isSp_yes (.inr (.inr (.inl (by simpa using h))))
theorem isSp_4 {c : Int} (h : (c == 13) = true) : isSp c = true := isSp_yes (.inr (.inr (.inr (by simpa using h))))

/-- The reader's row behind 'r.pos++'. -/
theorem row_step {wr : World} {R q k m : Nat} {s : Value} {cs' : Array Value} (hn : cs'.size = m) (h0 : cs'[0]? = some s) (h1 : cs'[1]? = some (.int .i64 k)) (hr : wr.heap[R]? = some (.cells cs' 40 (0, 0))) :
    ((wr.drewN q).setCell ⟨R, 1, none⟩ (.int .i64 ((k : Int) + 1))).heap[R]? = some (.cells (cs'.setIfInBounds 1 (.int .i64 ((k : Int) + 1))) 40 (0, 0)) ∧ (cs'.setIfInBounds 1 (.int .i64 ((k : Int) + 1))).size = m ∧
      (cs'.setIfInBounds 1 (.int .i64 ((k : Int) + 1)))[0]? = some s ∧ (cs'.setIfInBounds 1 (.int .i64 ((k : Int) + 1)))[1]? = some (.int .i64 ((k + 1 : Nat) : Int)) := by
  have hs : 1 < cs'.size := by
    rcases Nat.lt_or_ge 1 cs'.size with h | h
    · exact h
    · rw [Array.getElem?_eq_none h] at h1; cases h1
  refine ⟨heap_setCell_same _ _ _ cs' 40 _ hr, by simpa using hn, ?_, ?_⟩
  · rw [Array.getElem?_setIfInBounds_ne (by omega)]; exact h0
  · rw [Array.getElem?_setIfInBounds_self_of_lt hs]; simp

theorem less {wr : World} {R q k n : Nat} (hlt : k < n) (c1 : wr.cell? ⟨R, 1, none⟩ = some (.int .i64 k)) :
    n - (intOf ((((wr.drewN q).setCell ⟨R, 1, none⟩ (.int .i64 ((k : Int) + 1))).cell? ⟨R, 1, none⟩).getD undef)).toNat < n - (intOf ((wr.cell? ⟨R, 1, none⟩).getD undef)).toNat := by
  have c1' : (wr.drewN q).cell? ⟨R, 1, none⟩ = some (.int .i64 k) := c1
  rw [World.cell?_setCell_same _ _ _ c1', c1]
  simp [intOf]
  omega

set_option maxHeartbeats 400000 in
theorem isSpace_any (c : Int) (w : World) : Calls Try.prog 10 #[.int .u8 c] w fun r w' => r = .returned (.bool (isSp c)) ∧ w = w' := by
  by_cases h1 : c = 32
  · subst h1
    go_enter Try.func10, Try.ntmps10
    go_wp2
    go_ret
    exact ⟨rfl, rfl⟩
  · by_cases h2 : c = 9
    · subst h2
      go_enter Try.func10, Try.ntmps10
      go_wp2
      go_ret
      exact ⟨rfl, rfl⟩
    · by_cases h3 : c = 10
      · subst h3
        go_enter Try.func10, Try.ntmps10
        go_wp2
        go_ret
        exact ⟨rfl, rfl⟩
      · by_cases h4 : c = 13
        · subst h4
          go_enter Try.func10, Try.ntmps10
          go_wp2
          go_ret
          exact ⟨rfl, rfl⟩
        · have b1 : (c == 32) = false := by simpa using h1
          have b2 : (c == 9) = false := by simpa using h2
          have b3 : (c == 10) = false := by simpa using h3
          have b4 : (c == 13) = false := by simpa using h4
          go_enter Try.func10, Try.ntmps10
          go_wp2
          go_ret
          exact ⟨by rw [isSp_no h1 h2 h3 h4]; rfl, rfl⟩

set_option maxHeartbeats 800000 in
theorem space_any (R n c p : Nat) (a : Option Addr) (cs : Array Value) (zs : Nat → Int) (w : World) (hR : w.heap[R]? = some (.cells cs 40 (0, 0))) (h0 : cs[0]? = some (.slice a n c)) (h1 : cs[1]? = some (.int .i64 p))
    (hn : n ≤ 1048576) (hd : n = 0 ∨ ∃ A off, a = some ⟨A, off, none⟩ ∧ A < R ∧ ∀ i, i < n → w.cell? ⟨A, off + i, none⟩ = some (.int .u8 (zs i))) :
    Calls Try.prog 18 #[.pointer (some ⟨R, 0, none⟩)] w fun r w' => r = .returned (.tuple #[]) ∧ Below R w w' ∧ w'.heap.size = w.heap.size ∧ w'.cell? ⟨R, 1, none⟩ = some (.int .i64 (jump zs n p)) := by
  have HD : Hid (n = 0 ∨ ∃ A off, a = some ⟨A, off, none⟩ ∧ A < R ∧ ∀ i, i < n → w.cell? ⟨A, off + i, none⟩ = some (.int .u8 (zs i))) := hd
  have HR : Hid (w.heap[R]? = some (.cells cs 40 (0, 0))) := hR
  have H0 : Hid (cs[0]? = some (.slice a n c)) := h0
  have H1 : Hid (cs[1]? = some (.int .i64 p)) := h1
  clear hd hR h0 h1
  go_enter Try.func18, Try.ntmps18
  go_wp2
  go_loopw [] (fun wr => ∃ k : Nat, p ≤ k ∧ (k ≤ n ∨ k = p) ∧ jump zs n k = jump zs n p ∧ Below R w wr ∧ wr.heap.size = w.heap.size ∧ ∃ cs', wr.heap[R]? = some (.cells cs' 40 (0, 0)) ∧ cs'.size = cs.size ∧ cs'[0]? = some (.slice a n c) ∧ cs'[1]? = some (.int .i64 k)) (fun wr => n - (intOf ((wr.cell? ⟨R, 1, none⟩).getD undef)).toNat)
  case atStart => exact ⟨p, Nat.le_refl _, .inr rfl, rfl, Below.refl _ _, rfl, cs, HR.out, rfl, H0.out, H1.out⟩
  case round =>
    obtain ⟨k, hk0, hk, hj, hbel, hsz, cs', hcs, hcn, hc0, hc1⟩ := hrel
    have c0 : wr.cell? ⟨R, 0, none⟩ = some (.slice a n c) := by rw [cell_of_row wr _ _ cs' 40 (0, 0) hcs]; exact hc0
    have c1 : wr.cell? ⟨R, 1, none⟩ = some (.int .i64 k) := by rw [cell_of_row wr _ _ cs' 40 (0, 0) hcs]; exact hc1
    have f1 : wr.frozen? ⟨R, 1, none⟩ = false := by simp [World.frozen?, hcs]
    have HS : Hid (wr.heap[R]? = some (.cells cs' 40 (0, 0))) := hcs
    have HC0 : Hid (cs'[0]? = some (.slice a n c)) := hc0
    have HC1 : Hid (cs'[1]? = some (.int .i64 k)) := hc1
    have HJ : Hid (jump zs n k = jump zs n p) := hj
    have HN : Hid (cs'.size = cs.size) := hcn
    clear hcs hc0 hc1 hj hcn
    by_cases hlt : k < n
    · rcases HD.out with hn0 | ⟨A, off, rfl, hA, hcell⟩
      · omega
      have c2 : wr.cell? ⟨A, off + k, none⟩ = some (.int .u8 (zs k)) := by rw [hbel.cell (p := ⟨A, off + k, none⟩) hA]; exact hcell k hlt
      clear hcell
      have hd1 : (k : Int) < (n : Int) := by omega
      have hd : decide ((k : Int) < (n : Int)) = true := by simpa using hlt
      go_wp2
      go_quiet (fail)
      go_wp2
      go_quiet (fail)
      go_wp2
      all_goals first
        | (go_roundw
           case rel =>
             have hsp : isSp (zs k) = true := by first | exact isSp_1 ‹_› | exact isSp_2 ‹_› | exact isSp_3 ‹_› | exact isSp_4 ‹_›
             obtain ⟨r1, r2, r3, r4⟩ := row_step HN.out HC0.out HC1.out HS.out
             exact ⟨k + 1, by omega, .inl (by omega), (jump_go hlt hsp).symm.trans HJ.out, (below_drewN hbel _).setCell (Nat.le_refl _) _, by simpa using hsz, _, r1, r2, r3, r4⟩
           case measure => exact less hlt c1)
        | (go_returns
           have hns : isSp (zs k) = false := isSp_no (by simpa using ‹(zs k == 32) = false›) (by simpa using ‹(zs k == 9) = false›) (by simpa using ‹(zs k == 10) = false›) (by simpa using ‹(zs k == 13) = false›)
           have hj := HJ.out
           rw [jump_stop hns] at hj
           exact ⟨rfl, below_drewN hbel _, hsz, by rw [← hj]; exact c1⟩)
    · have hd : decide ((k : Int) < (n : Int)) = false := by simpa using hlt
      have hj := HJ.out
      rw [jump_end (by omega)] at hj
      go_wp2
      go_quiet (fail)
      go_wp2
      go_returns
      exact ⟨rfl, below_drewN hbel _, hsz, by rw [← hj]; exact c1⟩

set_option maxHeartbeats 800000 in
theorem jsonSpace_any (n c p : Nat) (a : Option Addr) (zs : Nat → Int) (w : World) (hn : n ≤ 1048576)
    (hd : n = 0 ∨ ∃ A off, a = some ⟨A, off, none⟩ ∧ A < w.heap.size ∧ ∀ i, i < n → w.cell? ⟨A, off + i, none⟩ = some (.int .u8 (zs i))) :
    Calls Try.prog 9 #[.slice a n c, .int .i64 p] w fun r w' => r = .returned (.int .i64 (jump zs n p)) ∧ Below w.heap.size w w' := by
  have HD : Hid (n = 0 ∨ ∃ A off, a = some ⟨A, off, none⟩ ∧ A < w.heap.size ∧ ∀ i, i < n → w.cell? ⟨A, off + i, none⟩ = some (.int .u8 (zs i))) := hd
  clear hd
  go_enter Try.func9, Try.ntmps9
  go_wp2_with fail
  refine (space_any w.heap.size n c p a _ zs _ (heap_alloc_new _ _) rfl rfl hn ?_).mono ?_
  · rcases HD.out with h | ⟨A, off, h1, h2, h3⟩
    · exact .inl h
    · exact .inr ⟨A, off, h1, h2, fun i hi => by rw [((Below.refl w.heap.size w).alloc (Nat.le_refl _) _).cell (p := ⟨A, off + i, none⟩) h2]; exact h3 i hi⟩
  rintro r w' ⟨rfl, hb, hs, hc⟩
  go_wp2
  go_ret
  exact ⟨rfl, ((Below.refl w.heap.size w).alloc (Nat.le_refl _) _).trans hb⟩

theorem spEnd_le (zs : Nat → Int) : ∀ d k, k ≤ spEnd zs d k ∧ spEnd zs d k ≤ k + d ∧ (∀ i, k ≤ i → i < spEnd zs d k → isSp (zs i) = true) ∧ (spEnd zs d k < k + d → isSp (zs (spEnd zs d k)) = false)
  | 0, k => ⟨Nat.le_refl _, Nat.le_refl _, fun i h1 h2 => absurd h1 (by simp only [spEnd] at h2; omega), fun h => absurd h (by simp [spEnd])⟩
  | d + 1, k => by
    by_cases h : isSp (zs k) = true
    · obtain ⟨a, b, c, e⟩ := spEnd_le zs d (k + 1)
      simp only [spEnd, h, if_true]
      refine ⟨by omega, by omega, fun i h1 h2 => ?_, fun h1 => e (by omega)⟩
      by_cases x : i = k
      · subst x; exact h
      · exact c i (by omega) h2
    · simp only [spEnd, h]
      exact ⟨Nat.le_refl _, by simp, fun i h1 h2 => absurd h1 (by simp at h2; omega), fun _ => by simpa using h⟩

theorem jump_le (zs : Nat → Int) (n p : Nat) (h : p ≤ n) : p ≤ jump zs n p ∧ jump zs n p ≤ n := by
  obtain ⟨a, b, _, _⟩ := spEnd_le zs (n - p) p
  unfold jump
  omega

theorem jump_in (zs : Nat → Int) (n p i : Nat) (h1 : p ≤ i) (h2 : i < jump zs n p) : isSp (zs i) = true := (spEnd_le zs (n - p) p).2.2.1 i h1 h2

theorem jump_at (zs : Nat → Int) (n p : Nat) (h : p ≤ n) (h2 : jump zs n p < n) : isSp (zs (jump zs n p)) = false := (spEnd_le zs (n - p) p).2.2.2 (by unfold jump at h2; omega)

theorem jump_again (zs : Nat → Int) (n p : Nat) (h : p ≤ n) : jump zs n (jump zs n p) = jump zs n p := by
  by_cases h2 : jump zs n p < n
  · exact jump_stop (jump_at zs n p h h2)
  · exact jump_end (by omega)

theorem spEnd_shift (zs : Nat → Int) (p : Nat) : ∀ d k, spEnd zs d (p + k) = p + spEnd (fun i => zs (p + i)) d k
  | 0, k => rfl
  | d + 1, k => by
    simp only [spEnd]
    rw [show p + k + 1 = p + (k + 1) from by omega, spEnd_shift zs p d (k + 1)]
    split <;> rfl

theorem jump_shift (zs : Nat → Int) (n p : Nat) : jump zs n p = p + jump (fun i => zs (p + i)) (n - p) 0 := spEnd_shift zs p (n - p) 0

end Go.Proofs.Qxb6604509a
