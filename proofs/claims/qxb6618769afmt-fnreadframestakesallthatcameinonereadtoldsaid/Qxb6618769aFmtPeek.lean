import Derived.Test.Qxb6618769aFmtFrame
namespace Go.Proofs.Qxb6618769aFmt
open Go.RowKit
set_option linter.unusedVariables false
set_option maxRecDepth 100000

theorem ret_slice {a : Option Addr} {n m c : Nat} (h : n = m) : Ending.returned (.tuple #[.slice a n c, .nilIface]) = .returned (.tuple #[.slice a m c, .nilIface]) := by rw [h]

set_option maxHeartbeats 2000000 in
/-- Peek at all that the buffer holds. -/
theorem peek_all (G : Geo) (ok : G.Ok) (c pos : Nat) (w : World) (hI : RI G w c pos) :
    Calls Tryf.prog 17 #[.pointer (some ⟨G.R, 0, none⟩), .int .i64 ((pos - c : Nat) : Int)] w fun e w' => ∃ o cp, e = .returned (.tuple #[.slice (some ⟨G.U, o, none⟩) (pos - c) cp, .nilIface]) ∧ pos - c ≤ cp ∧
      (∀ j, j < pos - c → w'.cell? ⟨G.U, o + j, none⟩ = some (.int .u8 (G.D (c + j)))) ∧ RI G w' c pos ∧ Kp (fun x => x = G.R) w w' := by
  obtain ⟨h1, h2, hD, hY, r, lb, lr, gu, hr, hR, hU, hg, hby⟩ := hI
  obtain ⟨L, hL⟩ : ∃ L, L = pos - c := ⟨_, rfl⟩
  rw [← hL] at hr hR hg ⊢
  obtain ⟨a0, a1, a2, a3, a4, a5, a6⟩ := rcells_at hR
  obtain ⟨f2, f3, f4, f5, f6⟩ := rcells_free hR
  have hsz := ok.szmax
  have hsz1 := ok.sz16
  have HR : Hid (w.heap[G.R]? = some (.cells (rcells G r (r + L) .nilIface lb lr) 44 (0, 0))) := hR
  have HD : Hid (DA w G.B G.da G.n G.D) := hD
  have HY : Hid (YR w G.Y G.da G.n pos) := hY
  have HU : Hid (w.rowIs G.U 5 G.SZ gu) := hU
  have HG : Hid ((∀ j, j < L → gu (r + j) = .int .u8 (G.D (c + j))) ∧ ∀ j, j < G.SZ → ∃ z : Int, gu j = .int .u8 z) := ⟨hg, hby⟩
  have HL : Hid (L = pos - c) := hL
  have hp : ((r + L : Nat) : Int) = (r : Int) + (L : Int) := by omega
  rw [hp] at a3
  clear hD hY hR hU hg hby hL
  go_enter Tryf.func17, Tryf.ntmps17
  go_wp2_with fail
  obtain ⟨w1, hw1⟩ : ∃ w1, w1 = (w.setCell ⟨G.R, 5, none⟩ (.int .i64 (-1))).setCell ⟨G.R, 6, none⟩ (.int .i64 (-1)) := ⟨_, rfl⟩
  rw [← hw1]
  have hK1 : Kp (fun y => y = G.R) w w1 := by rw [hw1]; exact ((Kp.refl _ _).setCell (by exact rfl) _).setCell (by exact rfl) _
  have HR1 : Hid (w1.heap[G.R]? = some (.cells (rcells G r (r + L) .nilIface (-1) (-1)) 44 (0, 0))) := by
    show w1.heap[G.R]? = _
    rw [hw1]; exact heap_setCell_same _ G.R 6 _ _ _ (heap_setCell_same w G.R 5 _ _ _ HR.out)
  have HU1 : Hid (w1.rowIs G.U 5 G.SZ gu) := hK1.row (Ne.symm ok.ru) HU.out
  have HD1 : Hid (DA w1 G.B G.da G.n G.D) := HD.out.keep hK1 (Ne.symm ok.rb)
  have HY1 : Hid (YR w1 G.Y G.da G.n pos) := HY.out.keep hK1 (Ne.symm ok.ry)
  clear a0 a1 a2 a3 a4 a5 a6 f2 f3 f4 f5 f6 hw1 HR HU HD HY
  go_loopw [17] (fun _ wr => wr = w1) (fun _ _ => 0)
  case atStart => exact rfl
  case round =>
    obtain rfl := hrel
    obtain ⟨b0, b1, b2, b3, b4, b5, b6⟩ := rcells_at HR1.out
    rw [hp] at b3
    have HI1 : Hid (RI G wr c pos) := ⟨h1, h2, HD1.out, HY1.out, r, -1, -1, gu, by have := HL.out; omega, by rw [← HL.out]; exact HR1.out, HU1.out, by rw [← HL.out]; exact HG.out.1, HG.out.2⟩
    have hKw : Hid (Kp (fun y => y = G.R) w wr) := hK1
    have hlt : (r : Int) + (L : Int) - (r : Int) = (L : Int) := by omega
    have hlt2 : decide ((r : Int) + (L : Int) - (r : Int) < (L : Int)) = false := by rw [hlt]; simp
    have hwr : IntKind.i64.wrap (L : Int) = (L : Int) := wrapid (by omega) (by omega)
    have hwr2 : IntKind.i64.wrap ((r : Int) + (L : Int) - (r : Int)) = (L : Int) := by rw [hlt]; exact hwr
    go_wp2_with fail
    go_quiet (fail)
    go_wp2_with fail
    go_quiet (fail)
    go_wp2_with fail
    by_cases hSr : G.SZ = r
    · go_quiet (fail)
      go_wp2_with fail
      go_ret2
      exact ⟨0, 0, ret_slice (by omega), by omega, fun j hj => by omega, HI1.out, (hKw.out.drewN _).drewN _⟩
    · go_quiet (fail)
      go_wp2_with fail
      go_ret2
      refine ⟨r, G.SZ - r, ret_slice (by omega), by omega, fun j hj => ?_, HI1.out, (hKw.out.drewN _).drewN _⟩
      exact (HU1.out.cell (i := r + j) (by omega)).trans (by rw [HG.out.1 j hj])

theorem ri_skip {G : Geo} (ok : G.Ok) {c pos m r q : Nat} {wr : World} {lb lr : Int} {gu : Nat → Value} (hm : c + m ≤ pos) (h2 : pos ≤ G.n) (hr : r + (pos - c) ≤ G.SZ) (v : Int) (hv : v = ((r + m : Nat) : Int))
    (hR : wr.heap[G.R]? = some (.cells (rcells G r (r + (pos - c)) .nilIface lb lr) 44 (0, 0))) (hU : wr.rowIs G.U 5 G.SZ gu) (hD : DA wr G.B G.da G.n G.D) (hY : YR wr G.Y G.da G.n pos)
    (hg : (∀ j, j < pos - c → gu (r + j) = .int .u8 (G.D (c + j))) ∧ ∀ j, j < G.SZ → ∃ z : Int, gu j = .int .u8 z) : RI G ((wr.drewN q).setCell ⟨G.R, 2, none⟩ (.int .i64 v)) (c + m) pos := by
  have hk : Kp (fun y => y = G.R) wr ((wr.drewN q).setCell ⟨G.R, 2, none⟩ (.int .i64 v)) := ((Kp.refl _ _).drewN q).setCell (by exact rfl) _
  refine ⟨hm, h2, hD.keep hk (Ne.symm ok.rb), hY.keep hk (Ne.symm ok.ry), r + m, lb, lr, gu, by omega, ?_, hk.row (Ne.symm ok.ru) hU, fun j hj => ?_, hg.2⟩
  · rw [heap_setCell_same (wr.drewN q) G.R 2 _ _ _ hR, hv, show r + m + (pos - (c + m)) = r + (pos - c) from by omega]; rfl
  · rw [show r + m + j = r + (m + j) from by omega, hg.1 (m + j) (by omega), show c + (m + j) = c + m + j from by omega]

set_option maxHeartbeats 2000000 in
/-- Discard of what the buffer holds. -/
theorem discard_some (G : Geo) (ok : G.Ok) (c pos m : Nat) (w : World) (hI : RI G w c pos) (hm : c + m ≤ pos) :
    Calls Tryf.prog 21 #[.pointer (some ⟨G.R, 0, none⟩), .int .i64 (m : Int)] w fun e w' => e = .returned (.tuple #[.int .i64 (m : Int), .nilIface]) ∧ RI G w' (c + m) pos ∧ Kp (fun x => x = G.R) w w' := by
  by_cases hm0 : m = 0
  · subst hm0
    have HI : Hid (RI G w c pos) := hI
    clear hI
    go_enter Tryf.func21, Tryf.ntmps21
    go_wp2
    go_ret2
    exact ⟨rfl, HI.out, Kp.refl _ _⟩
  · obtain ⟨h1, h2, hD, hY, r, lb, lr, gu, hr, hR, hU, hg, hby⟩ := hI
    have hmz : ((m : Int) == 0) = false := beq_eq_false_iff_ne.mpr (by omega)
    obtain ⟨f2, f3, f4, f5, f6⟩ := rcells_free hR
    obtain ⟨a0, a1, a2, a3, a4, a5, a6⟩ := rcells_at hR
    have hsz := ok.szmax
    have HR : Hid (w.heap[G.R]? = some (.cells (rcells G r (r + (pos - c)) .nilIface lb lr) 44 (0, 0))) := hR
    have HD : Hid (DA w G.B G.da G.n G.D) := hD
    have HY : Hid (YR w G.Y G.da G.n pos) := hY
    have HU : Hid (w.rowIs G.U 5 G.SZ gu) := hU
    have HG : Hid ((∀ j, j < pos - c → gu (r + j) = .int .u8 (G.D (c + j))) ∧ ∀ j, j < G.SZ → ∃ z : Int, gu j = .int .u8 z) := ⟨hg, hby⟩
    clear hD hY hR hU hg hby
    go_enter Tryf.func21, Tryf.ntmps21
    go_wp2_with fail
    obtain ⟨w1, hw1⟩ : ∃ w1, w1 = (w.setCell ⟨G.R, 5, none⟩ (.int .i64 (-1))).setCell ⟨G.R, 6, none⟩ (.int .i64 (-1)) := ⟨_, rfl⟩
    rw [← hw1]
    have hK1 : Kp (fun y => y = G.R) w w1 := by rw [hw1]; exact ((Kp.refl _ _).setCell (by exact rfl) _).setCell (by exact rfl) _
    have HR1 : Hid (w1.heap[G.R]? = some (.cells (rcells G r (r + (pos - c)) .nilIface (-1) (-1)) 44 (0, 0))) := by
      show w1.heap[G.R]? = _
      rw [hw1]; exact heap_setCell_same _ G.R 6 _ _ _ (heap_setCell_same w G.R 5 _ _ _ HR.out)
    have HU1 : Hid (w1.rowIs G.U 5 G.SZ gu) := hK1.row (Ne.symm ok.ru) HU.out
    have HD1 : Hid (DA w1 G.B G.da G.n G.D) := HD.out.keep hK1 (Ne.symm ok.rb)
    have HY1 : Hid (YR w1 G.Y G.da G.n pos) := HY.out.keep hK1 (Ne.symm ok.ry)
    clear a0 a1 a2 a3 a4 a5 a6 f2 f3 f4 f5 f6 hw1 HR HU HD HY
    go_loopw [6, 7] (fun a b wr => a = .int .i64 (m : Int) ∧ wr = w1) (fun _ _ _ => 0)
    case atStart => exact ⟨rfl, rfl⟩
    case round =>
      obtain ⟨rfl, rfl⟩ := hrel
      obtain ⟨b0, b1, b2, b3, b4, b5, b6⟩ := rcells_at HR1.out
      obtain ⟨f2, f3, f4, f5, f6⟩ := rcells_free HR1.out
      go_wp2_with (go_at_call 18; refine (buffered_any G.R r (r + (pos - c)) _ _ _ _ _ wr (by omega) (by omega) HR1.out).mono ?_; rintro e w2 ⟨rfl, q, hw2⟩; rw [hw2]; clear hw2)
      all_goals go_ret2
      · exact ⟨rfl, ri_skip ok hm h2 hr _ (by omega) HR1.out HU1.out HD1.out HY1.out HG.out, hK1.trans (((Kp.refl _ _).drewN q).setCell (by exact rfl) _)⟩
      · rename_i hq _ _ _ hz
        have hq2 : m = pos - c := by omega
        exact ⟨rfl, ri_skip ok hm h2 hr _ (by omega) HR1.out HU1.out HD1.out HY1.out HG.out, hK1.trans (((Kp.refl _ _).drewN q).setCell (by exact rfl) _)⟩
end Go.Proofs.Qxb6618769aFmt
