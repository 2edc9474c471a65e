import Derived.Test.Qxb6618333aCallB
namespace Go.Proofs.Qxb6618333a
open Go.RowKit
set_option linter.unusedVariables false

theorem Try.info32 : (Try.prog.info? 32).map (fun i => (i.zero, i.size, i.bytes)) = some (some (.agg #[.int .i64 0, .int .i64 0]), 2, 16) := by kernel_rfl

/-- What make lays for n pieces. -/
def madeP (n : Nat) : Array Value := madeCells #[.int .i64 0, .int .i64 0] (n * 2)
theorem make_pieces (n : Nat) (hn : n ≤ 65537) (w : World) : (Instr.makeSlice 30 (.int .i64 (n : Int)) (.int .i64 (n : Int))).run Try.prog w = .ok (.slice (some ⟨w.heap.size, 0, none⟩) n n) (w.alloc (.cells (madeP n) 32)) := by
  obtain ⟨i, hi, hz, hs, hb⟩ := info_parts Try.info32
  have hr := run_make (P := Try.prog) w 30 32 i _ Try.underlying30 hi hz .i64 .i64 n n (by omega) (Int.le_refl _) (by rw [hb]; omega) (by omega)
  rw [hs] at hr
  simpa [madeP, Value.cells] using hr

/-- Cell j of the pieces' row when k pieces are laid. -/
def pcell (fa fs : Nat → Int) (k j : Nat) : Value := if j < k * 2 then (if j % 2 = 0 then .int .i64 (fa (j / 2)) else .int .i64 (fs (j / 2))) else .int .i64 0
theorem madeP_row (w : World) (n : Nat) (fa fs : Nat → Int) : (w.alloc (.cells (madeP n) 32)).rowIs w.heap.size 32 (n * 2) (pcell fa fs 0) := by
  refine ⟨_, Deep.blk_alloc_new _ _, by simp [madeP, size_madeCells], fun i hi => ?_⟩
  have : i % 2 = 0 ∨ i % 2 = 1 := by omega
  rcases this with h | h <;> simp [madeP, madeCells, hi, h, pcell]
theorem pcell_step {w : World} {B n k : Nat} {fa fs : Nat → Int} (h : w.rowIs B 32 (n * 2) (pcell fa fs k)) (hk : k < n) :
    ((w.setCell ⟨B, k * 2, none⟩ (.int .i64 (fa k))).setCell ⟨B, k * 2 + 1, none⟩ (.int .i64 (fs k))).rowIs B 32 (n * 2) (pcell fa fs (k + 1)) := by
  refine ((h.set (k * 2) (.int .i64 (fa k))).set (k * 2 + 1) (.int .i64 (fs k))).congr fun j hj => ?_
  simp only [pcell]
  by_cases e1 : j = k * 2 + 1
  · subst e1
    rw [if_pos rfl, if_pos (by omega), if_neg (by omega), show (k * 2 + 1) / 2 = k from by omega]
  · by_cases e0 : j = k * 2
    · subst e0
      rw [if_neg (by omega), if_pos rfl, if_pos (by omega), if_pos (by omega), show (k * 2) / 2 = k from by omega]
    · rw [if_neg e1, if_neg e0]
      by_cases h1 : j < k * 2
      · rw [if_pos h1, if_pos (by omega : j < (k + 1) * 2)]
      · rw [if_neg h1, if_neg (by omega : ¬ j < (k + 1) * 2)]

theorem pj_of {w : World} {jb g n : Nat} {fa fs : Nat → Int} (h : w.rowIs g 32 (n * 2) (pcell fa fs n)) (hj : w.cell? ⟨jb, 7, none⟩ = some (.slice (some ⟨g, 0, none⟩) n n)) (hjb : jb < w.heap.size) : PJ w jb g n fa fs := by
  refine ⟨hj, h.lt, hjb, fun j hj => ⟨?_, ?_⟩⟩
  · rw [h.cell (i := j * 2) (by omega)]
    simp only [pcell]
    rw [if_pos (by omega), if_pos (by omega), show (j * 2) / 2 = j from by omega]
  · rw [h.cell (i := j * 2 + 1) (by omega)]
    simp only [pcell]
    rw [if_pos (by omega), if_neg (by omega), show (j * 2 + 1) / 2 = j from by omega]

set_option maxHeartbeats 400000 in
theorem joined_any (ga gs n ca cs : Nat) (fa fs : Nat → Int) (w : World) (hn : n ≤ 65537)
    (hA : ∀ j, j < n → w.cell? ⟨ga, j, none⟩ = some (.int .i64 (fa j))) (hS : ∀ j, j < n → w.cell? ⟨gs, j, none⟩ = some (.int .i64 (fs j))) (hga : ga < w.heap.size) (hgs : gs < w.heap.size) :
    Calls Try.prog 8 #[.slice (some ⟨ga, 0, none⟩) n ca, .slice (some ⟨gs, 0, none⟩) n cs] w fun e w' => ∃ jb g, e = .returned (.pointer (some ⟨jb, 0, none⟩)) ∧ PJ w' jb g n fa fs ∧ Below w.heap.size w w' := by
  have hmk := make_pieces n hn
  go_enter Try.func8, Try.ntmps8
  go_wp2
  go_loopw [6] (fun c wr => ∃ k : Nat, k ≤ n ∧ c = .int .i64 k ∧ wr.rowIs w.heap.size 32 (n * 2) (pcell fa fs k) ∧ Below w.heap.size w wr ∧ w.heap.size < wr.heap.size) (fun c _ => n - (intOf c).toNat)
  case atStart => exact ⟨0, Nat.zero_le _, rfl, madeP_row w n fa fs, (Below.refl _ _).alloc (Nat.le_refl _) _, by simp⟩
  case round =>
    obtain ⟨k, hk, rfl, hrow, hbel, hsz⟩ := hrel
    by_cases hlt : k < n
    · have hka : wr.cell? ⟨ga, k, none⟩ = some (.int .i64 (fa k)) := (hbel.cell (by exact hga)).trans (hA k hlt)
      have hks : wr.cell? ⟨gs, k, none⟩ = some (.int .i64 (fs k)) := (hbel.cell (by exact hgs)).trans (hS k hlt)
      have hc0 := hrow.cell (i := k * 2) (by omega)
      have hc1 := hrow.cell (i := k * 2 + 1) (by omega)
      have hf0 := hrow.frozen (k * 2)
      have hf1 := hrow.frozen (k * 2 + 1)
      have hlt' : (k : Int) < (n : Int) := by omega
      have HR : Hid (wr.rowIs w.heap.size 32 (n * 2) (pcell fa fs k)) := hrow
      clear hrow
      go_wp2
      go_region
      all_goals go_wp2
      go_roundw
      case rel => exact ⟨k + 1, by omega, by go_num, (pcell_step HR.out hlt).drew, ((hbel.setCell (Nat.le_refl _) _).setCell (Nat.le_refl _) _).drew, by simp [World.setCell, World.drew]; omega⟩
      case measure => simp [intOf]; omega
    · obtain rfl : k = n := by omega
      have HR : Hid (wr.rowIs w.heap.size 32 (k * 2) (pcell fa fs k)) := hrow
      clear hrow
      go_wp2
      go_ret
      refine ⟨wr.heap.size, w.heap.size, rfl, pj_of (HR.out.alloc _) ?_ ?_, hbel.alloc (by omega) _⟩
      · simp
      · simp

end Go.Proofs.Qxb6618333a
