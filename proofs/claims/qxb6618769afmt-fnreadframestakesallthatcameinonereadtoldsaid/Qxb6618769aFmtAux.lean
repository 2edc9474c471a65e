import Derived.Test.Qxb6618769aFmtSplit
namespace Go.Proofs.Qxb6618769aFmt
open Go.RowKit
set_option linter.unusedVariables false
set_option maxRecDepth 100000

set_option maxHeartbeats 400000 in
theorem bytes5 (a : Option Addr) (n c : Nat) (t : Int) (w : World) : Calls Tryf.prog 5 #[.slice a n c, .int .i64 t] w fun e w' => e = .returned (.bool (decide (n ≤ 1048576))) ∧ w' = w := by
  by_cases h : n ≤ 1048576
  · have hd : decide (n ≤ 1048576) = true := by simpa using h
    rw [hd]
    have h' : ¬ (1048576 : Int) < (n : Int) := by omega
    go_enter Tryf.func5, Tryf.ntmps5
    go_wp2
    go_ret
    exact ⟨rfl, rfl⟩
  · have hd : decide (n ≤ 1048576) = false := by simpa using h
    rw [hd]
    have h' : (1048576 : Int) < (n : Int) := by omega
    go_enter Tryf.func5, Tryf.ntmps5
    go_wp2
    go_ret
    exact ⟨rfl, rfl⟩
set_option maxHeartbeats 400000 in
theorem bytes11 (a : Option Addr) (n c : Nat) (t : Int) (w : World) : Calls Tryf.prog 11 #[.slice a n c, .int .i64 t] w fun e w' => e = .returned (.bool (decide (n ≤ 1048576))) ∧ w' = w := by
  by_cases h : n ≤ 1048576
  · have hd : decide (n ≤ 1048576) = true := by simpa using h
    rw [hd]
    have h' : ¬ (1048576 : Int) < (n : Int) := by omega
    go_enter Tryf.func11, Tryf.ntmps11
    go_wp2
    go_ret
    exact ⟨rfl, rfl⟩
  · have hd : decide (n ≤ 1048576) = false := by simpa using h
    rw [hd]
    have h' : (1048576 : Int) < (n : Int) := by omega
    go_enter Tryf.func11, Tryf.ntmps11
    go_wp2
    go_ret
    exact ⟨rfl, rfl⟩

set_option maxHeartbeats 400000 in
/-- zzEqualBytes of two slices that read alike. -/
theorem eq_any (n b o c b' o' c' : Nat) (f : Nat → Int) (w : World) (hn : n ≤ 1048576) (hc : ∀ j, j < n → w.cell? ⟨b, o + j, none⟩ = some (.int .u8 (f j))) (hc' : ∀ j, j < n → w.cell? ⟨b', o' + j, none⟩ = some (.int .u8 (f j))) :
    Calls Tryf.prog 10 #[.slice (some ⟨b, o, none⟩) n c, .slice (some ⟨b', o', none⟩) n c'] w fun e w' => e = .returned (.bool true) ∧ ∃ q, w' = w.drewN q := by
  go_enter Tryf.func10, Tryf.ntmps10
  go_wp2
  go_loopw [5] (fun i wr => ∃ k q : Nat, k ≤ n ∧ i = .int .i64 k ∧ wr = w.drewN q) (fun i _ => n - (intOf i).toNat)
  case atStart => exact ⟨0, 0, Nat.zero_le _, rfl, rfl⟩
  case round =>
    obtain ⟨k, q, hk, rfl, hw⟩ := hrel
    have HW : Hid (wr = w.drewN q) := hw
    clear hw
    by_cases hlt : k < n
    · have h2 : wr.cell? ⟨b, o + k, none⟩ = some (.int .u8 (f k)) := by rw [HW.out]; exact hc k hlt
      have h3 : wr.cell? ⟨b', o' + k, none⟩ = some (.int .u8 (f k)) := by rw [HW.out]; exact hc' k hlt
      have hlt' : (k : Int) < (n : Int) := by omega
      have e1 : (f k != f k) = false := by simp
      go_wp2
      go_quiet (fail)
      go_wp2
      go_roundw
      case rel => exact ⟨k + 1, q + nq, by omega, by go_num, by rw [HW.out, World.drewN_drewN]⟩
      case measure => simp [intOf]; omega
    · go_wp2
      go_ret
      exact ⟨rfl, q, HW.out⟩

/-- A row of kind K being filled: the first p cells are laid, the rest is zero. -/
def fillc (K : IntKind) (g : Nat → Int) (p j : Nat) : Value := if j < p then .int K (g j) else .int K 0
theorem fill_start (K : IntKind) (e : TypeId) (w : World) (n : Nat) (g : Nat → Int) : (w.alloc (.cells (madeCells #[.int K 0] n) e)).rowIs w.heap.size e n (fillc K g 0) :=
  (World.rowIs_made w (.int K 0) n e).congr fun i _ => by simp [fillc]
theorem fill_step {K : IntKind} {e : TypeId} {w : World} {B n p : Nat} {g : Nat → Int} {v : Int} (h : w.rowIs B e n (fillc K g p)) (hv : v = g p) : (w.setCell ⟨B, p, none⟩ (.int K v)).rowIs B e n (fillc K g (p + 1)) := by
  subst hv
  refine (h.set p (.int K (g p))).congr fun j hj => ?_
  unfold fillc
  by_cases e : j = p
  · subst e; rw [if_pos rfl, if_pos (by omega)]
  · rw [if_neg e]
    by_cases c : j < p
    · rw [if_pos c, if_pos (by omega)]
    · rw [if_neg c, if_neg (by omega)]
theorem fill_done {K : IntKind} {e : TypeId} {w : World} {B n : Nat} {g : Nat → Int} (h : w.rowIs B e n (fillc K g n)) : w.rowIs B e n (fun j => .int K (g j)) :=
  h.congr fun j hj => by simp [fillc, hj]

set_option maxHeartbeats 400000 in
/-- zzCloneBytes. -/
theorem clone_any (n b o c : Nat) (f : Nat → Int) (w : World) (hn : n ≤ 1048576) (hb : b < w.heap.size) (hc : ∀ j, j < n → w.cell? ⟨b, o + j, none⟩ = some (.int .u8 (f j))) :
    Calls Tryf.prog 6 #[.slice (some ⟨b, o, none⟩) n c] w fun e w' => e = .returned (.slice (some ⟨w.heap.size, 0, none⟩) n n) ∧ w'.rowIs w.heap.size 5 n (fun j => .int .u8 (f j)) ∧ Below w.heap.size w w' := by
  have hne := fun w => Lib.run_eql_slice_nil (P := Tryf.prog) w 22 5 (some ⟨b, o, none⟩) n c 0 0 Tryf.underlying22
  have hmk := run_make_row' (P := Tryf.prog) 22 5 (.int .u8 0) 1 Tryf.underlying22 info5 rfl .i64 .i64 n (by omega) (by omega)
  go_enter Tryf.func6, Tryf.ntmps6
  go_wp2
  go_loopw [4] (fun i wr => ∃ k : Nat, k ≤ n ∧ i = .int .i64 k ∧ wr.rowIs w.heap.size 5 n (fillc .u8 f k) ∧ Below w.heap.size w wr) (fun i _ => n - (intOf i).toNat)
  case atStart => exact ⟨0, Nat.zero_le _, rfl, fill_start .u8 5 w n f, (Below.refl _ _).alloc (Nat.le_refl _) _⟩
  case round =>
    obtain ⟨k, hk, rfl, hrow, hbel⟩ := hrel
    have HR : Hid (wr.rowIs w.heap.size 5 n (fillc .u8 f k)) := hrow
    clear hrow
    by_cases hlt : k < n
    · have h1 : wr.cell? ⟨b, o + k, none⟩ = some (.int .u8 (f k)) := (hbel.cell (by exact hb)).trans (hc k hlt)
      have h2 := HR.out.cell hlt
      have h3 := HR.out.frozen k
      have hlt' : (k : Int) < (n : Int) := by omega
      go_wp2
      go_roundw
      case rel => exact ⟨k + 1, by omega, by go_num, fill_step HR.out rfl, hbel.setCell (Nat.le_refl _) _⟩
      case measure => simp [intOf]; omega
    · obtain rfl : k = n := by omega
      go_wp2
      go_ret
      exact ⟨rfl, fill_done HR.out, hbel⟩
set_option maxHeartbeats 400000 in
theorem clone_nil (w : World) : Calls Tryf.prog 6 #[.slice none 0 0] w fun e w' => e = .returned (.slice none 0 0) ∧ w' = w := by
  have hne := fun w => Lib.run_eql_slice_nil (P := Tryf.prog) w 22 5 none 0 0 0 0 Tryf.underlying22
  go_enter Tryf.func6, Tryf.ntmps6
  go_wp2
  go_ret
  exact ⟨rfl, rfl⟩
end Go.Proofs.Qxb6618769aFmt
