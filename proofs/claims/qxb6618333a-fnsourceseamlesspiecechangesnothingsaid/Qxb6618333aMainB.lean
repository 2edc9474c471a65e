import Derived.Test.Qxb6618333aMainA
namespace Go.Proofs.Qxb6618333a
open Go.RowKit
set_option linter.unusedVariables false
set_option maxRecDepth 100000

set_option maxHeartbeats 400000 in
/-- Too long: true at once. -/
theorem long (a0 : Option Addr) (l0 c0 : Nat) (a1 : Option Addr) (l1 c1 : Nat) (i m k : Int) (w : World) (h0 : l0 ≤ maxLen) (h1 : l1 ≤ maxLen) (h : 65536 < l0 ∨ 65536 < l1) :
    Calls Try.prog 3 #[.slice a0 l0 c0, .slice a1 l1 c1, .int .i64 i, .int .i64 m, .int .i64 k] w fun e w' => e = .returned (.bool true) ∧ Below w.heap.size w w' := by
  by_cases hd : l0 + l1 ≤ 1048576
  · have hd' : decide (l0 + l1 ≤ 1048576) = true := decide_eq_true hd
    by_cases g0 : 65536 < l0
    · have g0' : (65536 : Int) < (l0 : Int) := by omega
      go_enter Try.func3, Try.ntmps3
      go_wp2_with fail
      refine (bytes_any _ _ _ _ _ _ _ _ _ _ h0 h1).mono ?_
      rintro e w2 ⟨rfl, hw2⟩
      rw [hw2, hd']
      go_wp2_with fail
      go_ret
      exact ⟨rfl, Below.refl _ _⟩
    · have g0' : ¬ (65536 : Int) < (l0 : Int) := by omega
      have g1 : (65536 : Int) < (l1 : Int) := by omega
      go_enter Try.func3, Try.ntmps3
      go_wp2_with fail
      refine (bytes_any _ _ _ _ _ _ _ _ _ _ h0 h1).mono ?_
      rintro e w2 ⟨rfl, hw2⟩
      rw [hw2, hd']
      go_wp2_with fail
      go_ret
      exact ⟨rfl, Below.refl _ _⟩
  · have hd' : decide (l0 + l1 ≤ 1048576) = false := decide_eq_false hd
    go_enter Try.func3, Try.ntmps3
    go_wp2_with fail
    refine (bytes_any _ _ _ _ _ _ _ _ _ _ h0 h1).mono ?_
    rintro e w2 ⟨rfl, hw2⟩
    rw [hw2, hd']
    go_wp2_with fail
    go_ret
    exact ⟨rfl, Below.refl _ _⟩

set_option maxHeartbeats 400000 in
theorem nil_nil (i m k : Int) (w : World) :
    Calls Try.prog 3 #[.slice none 0 0, .slice none 0 0, .int .i64 i, .int .i64 m, .int .i64 k] w fun e w' => e = .returned (.bool true) ∧ Below w.heap.size w w' := by
  have hne0 := fun w => run_neq_slice_nil_any (P := Try.prog) w 22 3 none 0 0 0 0 Try.underlying22
  have hd' : decide (0 + 0 ≤ 1048576) = true := rfl
  go_enter Try.func3, Try.ntmps3
  go_wp2_with fail
  refine (bytes_any _ _ _ _ _ _ _ _ _ _ (Nat.zero_le _) (Nat.zero_le _)).mono ?_
  rintro e w2 ⟨rfl, hw2⟩
  rw [hw2, hd']
  go_wp2_with fail
  go_ret
  exact ⟨rfl, Below.refl _ _⟩

set_option maxHeartbeats 400000 in
theorem nil_some (x1 : Addr) (len1 cap1 : Nat) (z1 : List Int) (i m k : Int) (w : World) (hl1 : len1 ≤ z1.length) (hn : len1 ≤ 65536)
    (hc1 : ∀ i, i < z1.length → w.cell? (x1.add i) = some (.int .i64 (z1.getD i 0))) :
    Calls Try.prog 3 #[.slice none 0 0, .slice (some x1) len1 cap1, .int .i64 i, .int .i64 m, .int .i64 k] w fun e w' => e = .returned (.bool true) ∧ Below w.heap.size w w' := by
  have hne0 := fun w => run_neq_slice_nil_any (P := Try.prog) w 22 3 none 0 0 0 0 Try.underlying22
  have hne1 := fun w => run_neq_slice_nil_any (P := Try.prog) w 22 3 (some x1) len1 cap1 0 0 Try.underlying22
  have hmk := run_make_row' (P := Try.prog) 22 3 (.int .i64 0) 8 Try.underlying22 Try.info3 rfl .i64 .i64 len1 (by omega) (by omega)
  have hd' : decide (0 + len1 ≤ 1048576) = true := decide_eq_true (by omega)
  go_enter Try.func3, Try.ntmps3
  go_wp2_with fail
  refine (bytes_any _ _ _ _ _ _ _ _ _ _ (Nat.zero_le _) (by unfold maxLen; omega)).mono ?_
  rintro e w2 ⟨rfl, hw2⟩
  rw [hw2, hd']
  clear hw2 w2
  go_upto_region 11 with fail
  iterate 7 go_step
  refine wpList_copy_fresh rfl (.tmp 50) (.tmp 51) 22 22 rfl 3 Try.underlying22 (by kernel_rfl) .i64 x1 len1 cap1 z1 rfl rfl hl1 hc1 ?_
  intro w2 HR2 hb2 hz2
  go_wp2_with fail
  go_ret
  exact ⟨rfl, hb2⟩

set_option maxHeartbeats 400000 in
theorem some_nil (x0 : Addr) (len0 cap0 : Nat) (z0 : List Int) (i m k : Int) (w : World) (hl0 : len0 ≤ z0.length) (hn : len0 ≤ 65536)
    (hc0 : ∀ i, i < z0.length → w.cell? (x0.add i) = some (.int .i64 (z0.getD i 0))) :
    Calls Try.prog 3 #[.slice (some x0) len0 cap0, .slice none 0 0, .int .i64 i, .int .i64 m, .int .i64 k] w fun e w' => e = .returned (.bool true) ∧ Below w.heap.size w w' := by
  have hne0 := fun w => run_neq_slice_nil_any (P := Try.prog) w 22 3 (some x0) len0 cap0 0 0 Try.underlying22
  have hne1 := fun w => run_neq_slice_nil_any (P := Try.prog) w 22 3 none 0 0 0 0 Try.underlying22
  have hmk := run_make_row' (P := Try.prog) 22 3 (.int .i64 0) 8 Try.underlying22 Try.info3 rfl .i64 .i64 len0 (by omega) (by omega)
  have hd' : decide (len0 + 0 ≤ 1048576) = true := decide_eq_true (by omega)
  go_enter Try.func3, Try.ntmps3
  go_wp2_with fail
  refine (bytes_any _ _ _ _ _ _ _ _ _ _ (by unfold maxLen; omega) (Nat.zero_le _)).mono ?_
  rintro e w2 ⟨rfl, hw2⟩
  rw [hw2, hd']
  clear hw2 w2
  go_upto_region 7 with fail
  iterate 7 go_step
  refine wpList_copy_fresh rfl (.tmp 41) (.tmp 42) 22 22 rfl 3 Try.underlying22 (by kernel_rfl) .i64 x0 len0 cap0 z0 rfl rfl hl0 hc0 ?_
  intro w2 HR2 hb2 hz2
  by_cases h0 : ((len0 : Int) == 0) = true
  · go_wp2_with fail
    all_goals (go_ret; exact ⟨rfl, hb2⟩)
  · have h0' : ((len0 : Int) == 0) = false := by simpa using h0
    have h1' : ((0 : Int) != (len0 : Int)) = true := by simp at h0'; simp; omega
    clear h0
    go_wp2_with fail
    all_goals (go_ret; exact ⟨rfl, hb2⟩)

set_option maxHeartbeats 400000 in
theorem some_some (x0 : Addr) (len0 cap0 : Nat) (z0 : List Int) (x1 : Addr) (len1 cap1 : Nat) (z1 : List Int) (i m k : Int) (w : World)
    (hl0 : len0 ≤ z0.length) (hl1 : len1 ≤ z1.length) (hn0 : len0 ≤ 65536) (hn1 : len1 ≤ 65536) (h : len0 = 0 ∨ len1 ≠ len0)
    (hc0 : ∀ i, i < z0.length → w.cell? (x0.add i) = some (.int .i64 (z0.getD i 0))) (hc1 : ∀ i, i < z1.length → w.cell? (x1.add i) = some (.int .i64 (z1.getD i 0))) :
    Calls Try.prog 3 #[.slice (some x0) len0 cap0, .slice (some x1) len1 cap1, .int .i64 i, .int .i64 m, .int .i64 k] w fun e w' => e = .returned (.bool true) ∧ Below w.heap.size w w' := by
  have hne0 := fun w => run_neq_slice_nil_any (P := Try.prog) w 22 3 (some x0) len0 cap0 0 0 Try.underlying22
  have hne1 := fun w => run_neq_slice_nil_any (P := Try.prog) w 22 3 (some x1) len1 cap1 0 0 Try.underlying22
  have hmk0 := run_make_row' (P := Try.prog) 22 3 (.int .i64 0) 8 Try.underlying22 Try.info3 rfl .i64 .i64 len0 (by omega) (by omega)
  have hmk1 := run_make_row' (P := Try.prog) 22 3 (.int .i64 0) 8 Try.underlying22 Try.info3 rfl .i64 .i64 len1 (by omega) (by omega)
  have hd' : decide (len0 + len1 ≤ 1048576) = true := decide_eq_true (by omega)
  have H : Hid (len0 = 0 ∨ len1 ≠ len0) := h
  clear h
  go_enter Try.func3, Try.ntmps3
  go_wp2_with fail
  refine (bytes_any _ _ _ _ _ _ _ _ _ _ (by unfold maxLen; omega) (by unfold maxLen; omega)).mono ?_
  rintro e w2 ⟨rfl, hw2⟩
  rw [hw2, hd']
  clear hw2 w2
  go_upto_region 7 with fail
  iterate 7 go_step
  refine wpList_copy_fresh rfl (.tmp 41) (.tmp 42) 22 22 rfl 3 Try.underlying22 (by kernel_rfl) .i64 x0 len0 cap0 z0 rfl rfl hl0 hc0 ?_
  intro w1 HR1 hb1 hz1
  have hc1' : ∀ i, i < z1.length → w1.cell? (x1.add i) = some (.int .i64 (z1.getD i 0)) := fun i hi => cell_later hb1 (hc1 i hi)
  clear hc0 hc1 hne0 hmk0
  go_upto_region 11 with fail
  iterate 7 go_step
  refine wpList_copy_fresh rfl (.tmp 50) (.tmp 51) 22 22 rfl 3 Try.underlying22 (by kernel_rfl) .i64 x1 len1 cap1 z1 rfl rfl hl1 hc1' ?_
  intro w2 HR2 hb2 hz2
  have hbel : Below w.heap.size w w2 := hb1.trans (hb2.mono (by omega))
  by_cases h0 : ((len0 : Int) == 0) = true
  · go_wp2_with fail
    all_goals (go_ret; exact ⟨rfl, hbel⟩)
  · have h0' : ((len0 : Int) == 0) = false := by simpa using h0
    have h1' : ((len1 : Int) != (len0 : Int)) = true := by
      have := H.out
      simp at h0'; simp; omega
    clear h0
    go_wp2_with fail
    all_goals (go_ret; exact ⟨rfl, hbel⟩)

end Go.Proofs.Qxb6618333a
