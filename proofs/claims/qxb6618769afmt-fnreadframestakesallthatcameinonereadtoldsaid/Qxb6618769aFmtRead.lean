import Derived.Test.Qxb6618769aFmtKept
namespace Go.Proofs.Qxb6618769aFmt
open Go.RowKit
set_option linter.unusedVariables false
set_option maxRecDepth 100000

/-- A bytes.Reader at block Y: its data are the n cells at the head of block B (da: where they lie), it stands at pos. -/
def YR (w : World) (Y : Nat) (da : Option Addr) (n pos : Nat) : Prop := ∃ pr : Int, w.heap[Y]? = some (.cells #[.slice da n n, .int .i64 (pos : Int), .int .i64 pr] 47 (0, 0))
/-- The data: n bytes at the head of block B. -/
def DA (w : World) (B : Nat) (da : Option Addr) (n : Nat) (D : Nat → Int) : Prop := 0 < n → da = some ⟨B, 0, none⟩ ∧ ∀ j, j < n → w.cell? ⟨B, j, none⟩ = some (.int .u8 (D j))
theorem DA.keep {s : Nat → Prop} {w w' : World} {B : Nat} {da : Option Addr} {n : Nat} {D : Nat → Int} (h : DA w B da n D) (hk : Kp s w w') (hs : ¬ s B) : DA w' B da n D := fun hn =>
  ⟨(h hn).1, fun j hj => hk.cell (by exact hs) ((h hn).2 j hj)⟩

theorem size1 : (Tryf.prog.info? 5).map (·.size) = some 1 := by kernel_rfl

set_option maxHeartbeats 1000000 in
/-- At the end of the data: (0, io.EOF). -/
theorem yread_end (Y n : Nat) (da : Option Addr) (v : Value) (pa : Option Addr) (L pc : Nat) (w : World) (hn : n ≤ 1048576) (hY : YR w Y da n n) (hE : w.cell? ⟨0, 0, none⟩ = some v) :
    Calls Tryf.prog 47 #[.pointer (some ⟨Y, 0, none⟩), .slice pa L pc] w fun e w' => e = .returned (.tuple #[.int .i64 0, v]) ∧ ∃ q, w' = w.drewN q := by
  obtain ⟨pr, hY⟩ := hY
  have c0 : w.cell? ⟨Y, 0, none⟩ = some (.slice da n n) := by rw [cell_of_row _ _ _ _ _ _ hY]; rfl
  have c1 : w.cell? ⟨Y, 1, none⟩ = some (.int .i64 (n : Int)) := by rw [cell_of_row _ _ _ _ _ _ hY]; rfl
  clear hY
  go_enter Tryf.func47, Tryf.ntmps47
  go_wp2
  go_quiet (fail)
  go_wp2
  go_quiet (fail)
  go_wp2
  go_ret2
  exact ⟨rfl, _, by rw [World.drewN_drewN]⟩

set_option maxHeartbeats 1000000 in
/-- Within the data: as many bytes as fit. -/
theorem yread_some (Y B n pos : Nat) (da : Option Addr) (D : Nat → Int) (pb po L pc t K : Nat) (g : Nat → Value) (w : World) (hn : n ≤ 1048576) (hL : 0 < L) (hLm : L ≤ 1048576) (hpos : pos < n)
    (hY : YR w Y da n pos) (hD : DA w B da n D) (hP : w.rowIs pb t K g) (hfit : po + L ≤ K) (hne : pb ≠ Y) (k : Nat) (hk : k = min L (n - pos)) :
    Calls Tryf.prog 47 #[.pointer (some ⟨Y, 0, none⟩), .slice (some ⟨pb, po, none⟩) L pc] w fun e w' => e = .returned (.tuple #[.int .i64 (k : Int), .nilIface]) ∧ YR w' Y da n (pos + k) ∧
      w'.rowIs pb t K (over g po k (fun j => .int .u8 (D (pos + j)))) ∧ Kp (fun x => x = Y ∨ x = pb) w w' := by
  obtain ⟨pr, hY⟩ := hY
  obtain ⟨rfl, hcs⟩ := hD (by omega)
  have hk1 : k ≤ L := by omega
  have hk2 : k ≤ n - pos := by omega
  have HKK : Hid (k = min L (n - pos)) := hk
  clear hk
  have c0 : w.cell? ⟨Y, 0, none⟩ = some (.slice (some ⟨B, 0, none⟩) n n) := by rw [cell_of_row _ _ _ _ _ _ hY]; rfl
  have c1 : w.cell? ⟨Y, 1, none⟩ = some (.int .i64 (pos : Int)) := by rw [cell_of_row _ _ _ _ _ _ hY]; rfl
  have c2 : w.cell? ⟨Y, 2, none⟩ = some (.int .i64 pr) := by rw [cell_of_row _ _ _ _ _ _ hY]; rfl
  have f2 := frozen_of_row _ _ 2 _ _ hY
  have f1 := frozen_of_row _ _ 1 _ _ hY
  have hp1 : (pos : Int) < (n : Int) := by omega
  have HP : Hid (w.rowIs pb t K g) := hP
  have HY : Hid (w.heap[Y]? = some (.cells #[.slice (some ⟨B, 0, none⟩) n n, .int .i64 (pos : Int), .int .i64 pr] 47 (0, 0))) := hY
  have HC : Hid (∀ j, j < n → w.cell? ⟨B, j, none⟩ = some (.int .u8 (D j))) := hcs
  clear hP hY hcs
  go_enter Tryf.func47, Tryf.ntmps47
  go_wp2
  go_quiet (fail)
  go_wp2
  obtain ⟨w1, hw1⟩ : ∃ w1, w1 = (w.drewN nq).setCell ⟨Y, 2, none⟩ (.int .i64 (-1)) := ⟨_, rfl⟩
  rw [← hw1]
  have hK1 : Kp (fun x => x = Y ∨ x = pb) w w1 := by rw [hw1]; exact ((Kp.refl _ _).drewN nq).setCell (Or.inl rfl) _
  have HY1 : Hid (w1.heap[Y]? = some (.cells #[.slice (some ⟨B, 0, none⟩) n n, .int .i64 (pos : Int), .int .i64 (-1)] 47 (0, 0))) := by
    show w1.heap[Y]? = _
    rw [hw1, heap_setCell_same (w.drewN nq) Y 2 _ _ _ HY.out]; rfl
  have hBY : B ≠ Y := by
    intro e
    have h1 := HC.out 0 (by omega)
    rw [e, cell_of_row _ _ _ _ _ _ HY.out] at h1
    simp at h1
  have HP1 : Hid (w1.rowIs pb t K g) := by
    show w1.rowIs pb t K g
    rw [hw1]; exact World.rowIs.setOther (w := w.drewN nq) HP.out (by exact hne) _
  have HC1 : Hid (∀ j, j < n → w1.cell? ⟨B, j, none⟩ = some (.int .u8 (D j))) := fun j hj => by
    rw [hw1, World.cell?_setCell_other _ _ _ _ (by intro e; exact hBY (congrArg Addr.block e).symm)]
    exact HC.out j hj
  have c0' : w1.cell? ⟨Y, 0, none⟩ = some (.slice (some ⟨B, 0, none⟩) n n) := by rw [cell_of_row _ _ _ _ _ _ HY1.out]; rfl
  have c1' : w1.cell? ⟨Y, 1, none⟩ = some (.int .i64 (pos : Int)) := by rw [cell_of_row _ _ _ _ _ _ HY1.out]; rfl
  clear hw1 c0 c1 c2 f1 f2 HY HP HC
  go_region_held_law (fun w' => w'.cell? ⟨Y, 0, none⟩ = some (.slice (some ⟨B, 0, none⟩) n n) ∧ w'.cell? ⟨Y, 1, none⟩ = some (.int .i64 (pos : Int))) (first | exact ⟨c0', c1'⟩ | exact ⟨Kp.cell (s := fun x => x = pb) (w := w1) (by assumption) (by exact Ne.symm hne) c0', Kp.cell (s := fun x => x = pb) (w := w1) (by assumption) (by exact Ne.symm hne) c1'⟩)
    ((refine step_copy_fn rfl (.tmp 20) (.tmp 29) 22 22 rfl 5 Tryf.underlying22 size1 pb po L pc B pos (n - pos) (n - pos) k t K g (fun j => .int .u8 (D (pos + j))) rfl rfl (by rw [HKK.out]; exact Nat.min_comm _ _) HP1.out (by omega) (fun j hj => HC1.out (pos + j) (by omega)) (fun j hj => rfl) ?_; intro w2 HR2 hk2' hz2; have hk3 := hk2'.fromDrew; clear hk2'))
  have HY2 : Hid (w2.heap[Y]? = some (.cells #[.slice (some ⟨B, 0, none⟩) n n, .int .i64 (pos : Int), .int .i64 (-1)] 47 (0, 0))) := hk3.heap (Ne.symm hne) HY1.out
  have d1 : w2.cell? ⟨Y, 1, none⟩ = some (.int .i64 (pos : Int)) := by rw [cell_of_row _ _ _ _ _ _ HY2.out]; rfl
  have e1 := frozen_of_row _ _ 1 _ _ HY2.out
  have hK2 : Kp (fun x => x = Y ∨ x = pb) w w2 := hK1.trans (hk3.mono fun x h => Or.inr h)
  clear hk3 hK1 hz2 c0' c1' HC1 HP1 HY1
  go_wp2
  go_ret2
  refine ⟨rfl, ⟨-1, ?_⟩, World.rowIs.setOther HR2.out (by exact hne) _, hK2.setCell (Or.inl rfl) _⟩
  rw [heap_setCell_same _ _ _ _ _ _ HY2.out, show ((pos + k : Nat) : Int) = (pos : Int) + (k : Int) from by omega]
  rfl

end Go.Proofs.Qxb6618769aFmt
