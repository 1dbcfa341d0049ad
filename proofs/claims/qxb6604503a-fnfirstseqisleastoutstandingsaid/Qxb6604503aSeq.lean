/-
  THE WALKS OF THE FUNCTIONS THAT BOTH LAWS OF THIS SEAT GO THROUGH: the bounds on lengths (7, 10), the copy of the numbers (8), the replies built over them and their first number (9, 24, 29).
-/
import Derived.Test.Qxb6604503aProg
import Derived.WalkKit
import Derived.ProofKit
import Derived.Handy
import Derived.Deep.QuietTactic
import Derived.BigQuiet
import Derived.WalkSpells
import Derived.WalkSmall
namespace Go.Proofs.Qxb6604503a
open Go.ChangeShapes Go.WideShapes Go.ChangeAt Go.RowKit

theorem Try.info23 : (Try.prog.info? 23).map (fun i => (i.zero, i.size, i.bytes)) = some (some (.int .u64 0), 1, 8) := by kernel_rfl

theorem bytes_any (a : Option Addr) (n c : Nat) (h : Int) (e : Int) (w : World) (hn : n ≤ 9223372036854775807) :
    Calls Try.prog 7 #[.slice a n c, .int .i64 h, .int .u64 e] w fun r w' => r = .returned (.bool (decide (n ≤ 1048576))) ∧ w = w' := by
  by_cases h1 : n ≤ 1048576
  · go_enter Try.func7, Try.ntmps7
    go_wp2
    go_ret
    exact ⟨by simp [h1], rfl⟩
  · go_enter Try.func7, Try.ntmps7
    go_wp2
    go_ret
    exact ⟨by simp [h1], rfl⟩

theorem bytes2_any (a : Option Addr) (n c : Nat) (h : Int) (e : Int) (w : World) (hn : n ≤ 9223372036854775807) :
    Calls Try.prog 10 #[.slice a n c, .int .i64 h, .int .u64 e] w fun r w' => r = .returned (.bool (decide (n ≤ 1048576))) ∧ w = w' := by
  by_cases h1 : n ≤ 1048576
  · go_enter Try.func10, Try.ntmps10
    go_wp2
    go_ret
    exact ⟨by simp [h1], rfl⟩
  · go_enter Try.func10, Try.ntmps10
    go_wp2
    go_ret
    exact ⟨by simp [h1], rfl⟩

set_option maxHeartbeats 400000 in
theorem clone_nil (w : World) : Calls Try.prog 8 #[.slice none 0 0] w fun r w' => r = .returned (.slice none 0 0) ∧ w = w' := by
  have hq := fun W : World => Lib.run_eql_slice_nil (P := Try.prog) W 22 23 none 0 0 0 0 Try.underlying22
  go_enter Try.func8, Try.ntmps8
  go_wp2
  go_ret
  exact ⟨rfl, rfl⟩

set_option maxHeartbeats 400000 in
theorem clone_some (b off n c : Nat) (zs : Nat → Int) (w : World) (hn : n ≤ 65536) (hb : b < w.heap.size)
   (hcell : ∀ i, i < n → w.cell? ⟨b, off + i, none⟩ = some (.int .u64 (zs i))) :
   Calls Try.prog 8 #[.slice (some ⟨b, off, none⟩) n c] w fun r w' => r = .returned (.slice (some ⟨w.heap.size, 0, none⟩) n n) ∧ Below w.heap.size w w' ∧ w'.heap.size = w.heap.size + 1 ∧
     (∀ i, i < n → w'.cell? ⟨w.heap.size, i, none⟩ = some (.int .u64 (zs i))) := by
  obtain ⟨i0, hi, hz0, hz1, hz2⟩ := info_parts Try.info23
  obtain ⟨M, hM⟩ : ∃ M, M = madeCells (Value.int .u64 0).cells (((n : Nat) : Int).toNat * i0.size) := ⟨_, rfl⟩
  have hMs : M.size = n := by rw [hM, size_madeCells, hz1]; simp
  have hmk : ∀ W : World, (Instr.makeSlice 22 (.int .i64 (n : Int)) (.int .i64 (n : Int))).run Try.prog W = .ok (.slice (some ⟨W.heap.size, 0, none⟩) n n) (W.alloc (.cells M 23)) := fun W => by
    have h := run_make (P := Try.prog) W 22 23 i0 (.int .u64 0) Try.underlying22 hi hz0 .i64 .i64 (n : Int) (n : Int) (by omega) (by omega) (by rw [hz2]; omega) (by omega)
    rw [← hM] at h
    simpa using h
  clear hM
  have hq := fun W : World => Lib.run_eql_slice_nil (P := Try.prog) W 22 23 (some ⟨b, off, none⟩) n c 0 0 Try.underlying22
  have H : Hid (∀ i, i < n → w.cell? ⟨b, off + i, none⟩ = some (.int .u64 (zs i))) := hcell
  clear hcell
  go_enter Try.func8, Try.ntmps8
  go_wp2
  go_loopw [4] (fun i wr => ∃ k : Nat, k ≤ n ∧ i = .int .i64 k ∧ Below w.heap.size w wr ∧ wr.heap.size = w.heap.size + 1 ∧ ∃ cs, wr.heap[w.heap.size]? = some (.cells cs 23 (0, 0)) ∧ cs.size = n ∧ ∀ j, j < k → cs[j]? = some (.int .u64 (zs j))) (fun i _ => n - (intOf i).toNat)
  case atStart => exact ⟨0, Nat.zero_le _, rfl, (Below.refl _ _).alloc (Nat.le_refl _) _, by simp, M, heap_alloc_new _ _, hMs, fun j hj => absurd hj (by omega)⟩
  case round =>
    obtain ⟨k, hk, rfl, hbel, hsz, cs, hcs, hcn, hcl⟩ := hrel
    by_cases hlt : k < n
    · have c1 : wr.cell? ⟨b, off + k, none⟩ = some (.int .u64 (zs k)) := by rw [hbel.cell (p := ⟨b, off + k, none⟩) hb]; exact H.out k hlt
      have c2 : wr.cell? ⟨w.heap.size, k, none⟩ = some cs[k] := by rw [cell_of_row wr _ _ cs 23 (0, 0) hcs]; simp [hcn, hlt]
      have c3 : wr.frozen? ⟨w.heap.size, k, none⟩ = false := by simp [World.frozen?, hcs]
      have HC : Hid (∀ j, j < k → cs[j]? = some (.int .u64 (zs j))) := hcl
      have HS : Hid (wr.heap[w.heap.size]? = some (.cells cs 23 (0, 0))) := hcs
      clear hcl hcs
      go_wp2
      go_roundw
      case rel =>
        refine ⟨k + 1, by omega, by go_num, hbel.setCell (Nat.le_refl _) _, by simp [hsz], _, heap_setCell_same wr _ _ cs 23 _ HS.out, by simp [hcn], ?_⟩
        intro j hj
        by_cases e : j = k
        · subst e; simp [hcn, hlt]
        · have := HC.out j (by omega)
          rw [Array.getElem?_setIfInBounds_ne (by omega)]; exact this
      case measure => simp [intOf]; omega
    · have e : k = n := by omega
      subst e
      go_wp2
      go_ret
      refine ⟨rfl, hbel, hsz, fun i h => ?_⟩
      rw [cell_of_row wr _ _ cs 23 (0, 0) hcs]; exact hcl i h

set_option maxHeartbeats 400000 in
theorem clone_empty (x : Addr) (c : Nat) (w : World) :
   Calls Try.prog 8 #[.slice (some x) 0 c] w fun r w' => r = .returned (.slice (some ⟨w.heap.size, 0, none⟩) 0 0) ∧ Below w.heap.size w w' ∧ w'.heap.size = w.heap.size + 1 := by
  obtain ⟨i0, hi, hz0, hz1, hz2⟩ := info_parts Try.info23
  have hmk : ∀ W : World, (Instr.makeSlice 22 (.int .i64 0) (.int .i64 0)).run Try.prog W = .ok (.slice (some ⟨W.heap.size, 0, none⟩) 0 0) (W.alloc (.cells #[] 23)) := fun W => by
    have h := run_make (P := Try.prog) W 22 23 i0 (.int .u64 0) Try.underlying22 hi hz0 .i64 .i64 0 0 (by omega) (by omega) (by rw [hz2]; omega) (by omega)
    simpa [madeCells, Array.range_zero'] using h
  have hq := fun W : World => Lib.run_eql_slice_nil (P := Try.prog) W 22 23 (some x) 0 c 0 0 Try.underlying22
  go_enter Try.func8, Try.ntmps8
  go_wp2
  go_rounds 1
  go_ret
  exact ⟨rfl, (Below.refl _ _).alloc (Nat.le_refl _) _, by simp⟩

set_option maxHeartbeats 400000 in
theorem pending_any (R n c : Nat) (a : Option Addr) (h : Int) (w : World) (c0 : w.cell? ⟨R, 0, none⟩ = some (.slice a n c)) (c1 : w.cell? ⟨R, 1, none⟩ = some (.int .i64 h)) :
   Calls Try.prog 29 #[.pointer (some ⟨R, 0, none⟩)] w fun r w' => r = .returned (.bool (decide (h < (n : Int)))) ∧ ∃ q, w' = w.drewN q := by
  go_enter Try.func29, Try.ntmps29
  go_wp2
  go_quiet (fail)
  go_wp2
  go_ret
  exact ⟨rfl, _, rfl⟩

set_option maxHeartbeats 400000 in
theorem first_none (R n c : Nat) (a : Option Addr) (h e : Int) (w : World) (c0 : w.cell? ⟨R, 0, none⟩ = some (.slice a n c)) (c1 : w.cell? ⟨R, 1, none⟩ = some (.int .i64 h)) (c4 : w.cell? ⟨R, 4, none⟩ = some (.int .u64 e))
   (hh : ¬ h < (n : Int)) :
   Calls Try.prog 24 #[.pointer (some ⟨R, 0, none⟩)] w fun r w' => r = .returned (.int .u64 (IntKind.u64.wrap (e + 1))) ∧ ∃ q, w' = w.drewN q := by
  have hd : decide (h < (n : Int)) = false := by simpa using hh
  go_enter Try.func24, Try.ntmps24
  go_wp2_with (go_at_call 29; refine (pending_any R n c a h _ c0 c1).mono ?_; rintro r w' ⟨rfl, q, rfl⟩)
  go_ret
  exact ⟨rfl, _, rfl⟩

set_option maxHeartbeats 400000 in
theorem first_some (R A n c : Nat) (h : Nat) (z : Int) (w : World) (c0 : w.cell? ⟨R, 0, none⟩ = some (.slice (some ⟨A, 0, none⟩) n c)) (c1 : w.cell? ⟨R, 1, none⟩ = some (.int .i64 h)) 
   (hh : h < n) (cz : w.cell? ⟨A, h * 9 + 4, none⟩ = some (.int .u64 z)) :
   Calls Try.prog 24 #[.pointer (some ⟨R, 0, none⟩)] w fun r w' => r = .returned (.int .u64 z) ∧ ∃ q, w' = w.drewN q := by
  have hd : decide ((h : Int) < (n : Int)) = true := by simpa using hh
  have hd2 : ((h : Int) < (n : Int)) := by omega
  go_enter Try.func24, Try.ntmps24
  go_wp2_with (go_at_call 29; refine (pending_any R n c _ h _ c0 c1).mono ?_; rintro r w' ⟨rfl, q, rfl⟩)
  go_quiet (fail)
  go_wp2
  go_ret
  exact ⟨rfl, q + nq, by simp [World.drewN, Nat.add_assoc]⟩

theorem Try.info48 : (Try.prog.info? 48).map (fun i => (i.zero, i.size, i.bytes)) = some (some (.agg #[.int .u8 0, .bool false, .nilFunc, .slice none 0 0, .int .u64 0, .string ⟨#[]⟩, .bool false, .bool false, .bool false]), 9, 72) := by kernel_rfl

def seqOf (zs : Nat → Int) (n : Nat) (h : Nat) (e : Int) : Int := if h < n then zs h else IntKind.u64.wrap (e + 1)

set_option maxHeartbeats 400000 in
theorem seqOf_any (A n c : Nat) (h : Nat) (zs : Nat → Int) (e : Int) (w : World) (hn : n ≤ 65536) (hA : A < w.heap.size)
   (hcell : ∀ i, i < n → w.cell? ⟨A, i, none⟩ = some (.int .u64 (zs i))) :
   Calls Try.prog 9 #[.slice (some ⟨A, 0, none⟩) n c, .int .i64 h, .int .u64 e] w fun r w' => r = .returned (.int .u64 (seqOf zs n h e)) ∧ Below w.heap.size w w' := by
  obtain ⟨i0, hi, hz0, hz1, hz2⟩ := info_parts Try.info48
  obtain ⟨M, hM⟩ : ∃ M, M = madeCells (Value.agg #[.int .u8 0, .bool false, .nilFunc, .slice none 0 0, .int .u64 0, .string ⟨#[]⟩, .bool false, .bool false, .bool false]).cells (((n : Nat) : Int).toNat * i0.size) := ⟨_, rfl⟩
  have hMs : M.size = n * 9 := by rw [hM, size_madeCells, hz1]; simp
  have hmk : ∀ W : World, (Instr.makeSlice 45 (.int .i64 (n : Int)) (.int .i64 (n : Int))).run Try.prog W = .ok (.slice (some ⟨W.heap.size, 0, none⟩) n n) (W.alloc (.cells M 48)) := fun W => by
    have h := run_make (P := Try.prog) W 45 48 i0 _ Try.underlying45 hi hz0 .i64 .i64 (n : Int) (n : Int) (by omega) (by omega) (by rw [hz2]; omega) (by omega)
    rw [← hM] at h
    simpa using h
  clear hM
  have H : Hid (∀ i, i < n → w.cell? ⟨A, i, none⟩ = some (.int .u64 (zs i))) := hcell
  clear hcell
  go_enter Try.func9, Try.ntmps9
  go_wp2
  go_loopw [15] (fun i wr => ∃ k : Nat, k ≤ n ∧ i = .int .i64 k ∧ Below w.heap.size w wr ∧ wr.heap.size = w.heap.size + 1 ∧ ∃ cs, wr.heap[w.heap.size]? = some (.cells cs 48 (0, 0)) ∧ cs.size = n * 9 ∧ ∀ j, j < k → cs[j * 9 + 4]? = some (.int .u64 (zs j))) (fun i _ => n - (intOf i).toNat)
  case atStart => exact ⟨0, Nat.zero_le _, rfl, (Below.refl _ _).alloc (Nat.le_refl _) _, by simp, M, heap_alloc_new _ _, hMs, fun j hj => absurd hj (by omega)⟩
  case round =>
    obtain ⟨k, hk, rfl, hbel, hsz, cs, hcs, hcn, hcl⟩ := hrel
    by_cases hlt : k < n
    · have c1 : wr.cell? ⟨A, k, none⟩ = some (.int .u64 (zs k)) := by rw [hbel.cell (p := ⟨A, k, none⟩) hA]; exact H.out k hlt
      have hki : k * 9 + 4 < cs.size := by omega
      have c2 : wr.cell? ⟨w.heap.size, k * 9 + 4, none⟩ = some cs[k * 9 + 4] := by rw [cell_of_row wr _ _ cs 48 (0, 0) hcs]; simp [hki]
      have c3 : wr.frozen? ⟨w.heap.size, k * 9 + 4, none⟩ = false := by simp [World.frozen?, hcs]
      have HC : Hid (∀ j, j < k → cs[j * 9 + 4]? = some (.int .u64 (zs j))) := hcl
      have HS : Hid (wr.heap[w.heap.size]? = some (.cells cs 48 (0, 0))) := hcs
      clear hcl hcs
      go_wp2
      go_roundw
      case rel =>
        refine ⟨k + 1, by omega, by go_num, hbel.setCell (Nat.le_refl _) _, by simp [hsz], _, heap_setCell_same wr _ _ cs 48 _ HS.out, by simp [hcn], ?_⟩
        intro j hj
        by_cases e : j = k
        · subst e; simp [hki]
        · have := HC.out j (by omega)
          rw [Array.getElem?_setIfInBounds_ne (by omega)]; exact this
      case measure => simp [intOf]; omega
    · have e : k = n := by omega
      subst e
      have hnew : ∀ o : Obj, (wr.alloc o).heap[w.heap.size + 1]? = some o := fun o => by rw [← hsz]; exact heap_alloc_new _ _
      have hold : ∀ (o : Obj) (j : Nat), (wr.alloc o).cell? ⟨w.heap.size, j, none⟩ = cs[j]? := fun o j => by
        rw [cell_of_row _ _ _ cs 48 (0, 0) (by rw [Below.heap_alloc _ _ _ (by omega)]; exact hcs)]
      have HN : Hid (∀ o : Obj, (wr.alloc o).heap[w.heap.size + 1]? = some o) := hnew
      have HO : Hid (∀ (o : Obj) (j : Nat), (wr.alloc o).cell? ⟨w.heap.size, j, none⟩ = cs[j]?) := hold
      have HC : Hid (∀ j, j < k → cs[j * 9 + 4]? = some (.int .u64 (zs j))) := hcl
      clear hnew hold hcl hmk hcs
      by_cases hh : h < k
      · go_wp2_with fail
        refine (first_some (w.heap.size + 1) w.heap.size k k h (zs h) _ ?_ ?_ hh ?_).mono ?_
        · rw [cell_of_row _ _ _ _ _ _ (HN.out _)]; rfl
        · rw [cell_of_row _ _ _ _ _ _ (HN.out _)]; rfl
        · rw [HO.out]; exact HC.out h hh
        rintro r w' ⟨rfl, q, rfl⟩
        go_wp2
        go_ret
        exact ⟨by simp [seqOf, hh], below_drewN (hbel.alloc (by omega) _) q⟩
      · go_wp2_with fail
        refine (first_none (w.heap.size + 1) k k (some ⟨w.heap.size, 0, none⟩) h e _ ?_ ?_ ?_ (by omega)).mono ?_
        · rw [cell_of_row _ _ _ _ _ _ (HN.out _)]; rfl
        · rw [cell_of_row _ _ _ _ _ _ (HN.out _)]; rfl
        · rw [cell_of_row _ _ _ _ _ _ (HN.out _)]; rfl
        rintro r w' ⟨rfl, q, rfl⟩
        go_wp2
        go_ret
        exact ⟨by simp [seqOf, hh], below_drewN (hbel.alloc (by omega) _) q⟩

set_option maxHeartbeats 400000 in
theorem seqOf_zero (a : Option Addr) (c : Nat) (e : Int) (w : World) :
   Calls Try.prog 9 #[.slice a 0 c, .int .i64 0, .int .u64 e] w fun r w' => r = .returned (.int .u64 (IntKind.u64.wrap (e + 1))) ∧ Below w.heap.size w w' := by
  obtain ⟨i0, hi, hz0, hz1, hz2⟩ := info_parts Try.info48
  have hmk : ∀ W : World, (Instr.makeSlice 45 (.int .i64 0) (.int .i64 0)).run Try.prog W = .ok (.slice (some ⟨W.heap.size, 0, none⟩) 0 0) (W.alloc (.cells #[] 48)) := fun W => by
    have h := run_make (P := Try.prog) W 45 48 i0 _ Try.underlying45 hi hz0 .i64 .i64 0 0 (by omega) (by omega) (by rw [hz2]; omega) (by omega)
    simpa [madeCells, Array.range_zero'] using h
  go_enter Try.func9, Try.ntmps9
  go_wp2
  refine wp_loop_rounds 1 ?_
  rw [rounds_succ]
  go_wp2_with fail
  refine (first_none (w.heap.size + 1) 0 0 (some ⟨w.heap.size, 0, none⟩) 0 e _ ?_ ?_ ?_ (by omega)).mono ?_
  · rw [cell_of_row _ _ _ _ _ _ (heap_alloc2_new _ _ _)]; rfl
  · rw [cell_of_row _ _ _ _ _ _ (heap_alloc2_new _ _ _)]; rfl
  · rw [cell_of_row _ _ _ _ _ _ (heap_alloc2_new _ _ _)]; rfl
  rintro r w' ⟨rfl, q, rfl⟩
  go_wp2
  go_ret
  exact ⟨rfl, below_drewN (((Below.refl _ _).alloc (Nat.le_refl _) _).alloc (by simp) _) q⟩
end Go.Proofs.Qxb6604503a
