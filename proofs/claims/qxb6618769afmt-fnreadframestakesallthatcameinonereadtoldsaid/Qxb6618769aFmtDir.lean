import Derived.Test.Qxb6618769aFmtFil
namespace Go.Proofs.Qxb6618769aFmt
open Go.RowKit
set_option linter.unusedVariables false
set_option maxRecDepth 100000
attribute [local go_sem] meth34 meth28

set_option maxHeartbeats 2000000 in
/-- Read, nothing in the buffer, as much asked for as the buffer holds: straight from the stream. -/
theorem read_direct (G : Geo) (ok : G.Ok) (c pb po L pc t K : Nat) (g : Nat → Value) (w : World) (hLs : G.SZ ≤ L) (hLm : L ≤ 1048576) (hI : RI G w c c) (hcn : c < G.n)
    (hP : w.rowIs pb t K g) (hfit : po + L ≤ K) (n1 : pb ≠ G.R) (n2 : pb ≠ G.U) (k : Nat) (hk : k = min L (G.n - c)) (n3 : pb ≠ G.Y) (n4 : pb ≠ G.B) :
    Calls Tryf.prog 45 #[.pointer (some ⟨G.R, 0, none⟩), .slice (some ⟨pb, po, none⟩) L pc] w fun e w' => e = .returned (.tuple #[.int .i64 (k : Int), .nilIface]) ∧ RI G w' (c + k) (c + k) ∧
      w'.rowIs pb t K (over g po k (fun j => .int .u8 (G.D (c + j)))) ∧ Kp (fun x => x = G.R ∨ x = G.U ∨ x = G.Y ∨ x = pb) w w' := by
  obtain ⟨h1, h2, hD, hY, r, lb, lr, gu, hr, hR, hU, hg, hby⟩ := hI
  rw [show r + (c - c) = r from by omega] at hR hr
  obtain ⟨a0, a1, a2, a3, a4, a5, a6⟩ := rcells_at hR
  obtain ⟨f2, f3, f4, f5, f6⟩ := rcells_free hR
  have hsz := ok.szmax
  have hsz1 := ok.sz16
  have hnm := ok.nmax
  have hk1 : k ≤ L := by omega
  have hk2 : c + k ≤ G.n := by omega
  have hk3 : 1 ≤ k := by omega
  have HKK : Hid (k = min L (G.n - c)) := hk
  have hL0 : ((L : Int) == 0) = false := beq_eq_false_iff_ne.mpr (by omega)
  have HP : Hid (w.rowIs pb t K g) := hP
  have HD : Hid (DA w G.B G.da G.n G.D) := hD
  have HY : Hid (YR w G.Y G.da G.n c) := hY
  have HR : Hid (w.heap[G.R]? = some (.cells (rcells G r r .nilIface lb lr) 44 (0, 0))) := hR
  have HU : Hid (w.rowIs G.U 5 G.SZ gu) := hU
  have HG : Hid (∀ j, j < G.SZ → ∃ z : Int, gu j = .int .u8 z) := hby
  have nRU : ¬ (G.R = G.Y ∨ G.R = pb) := fun h => h.elim ok.ry (Ne.symm n1)
  clear hP hD hY hR hU hg hby hk
  go_enter Tryf.func45, Tryf.ntmps45
  go_wp2
  go_quiet (fail)
  obtain ⟨w1, hw1⟩ : ∃ w1, w1 = w.drewN nq := ⟨_, rfl⟩
  rw [← hw1]
  have hK1 : Kp (fun y => y = G.R) w w1 := by rw [hw1]; exact (Kp.refl _ _).drewN nq
  have HR1 : Hid (w1.heap[G.R]? = some (.cells (rcells G r r .nilIface lb lr) 44 (0, 0))) := by show w1.heap[G.R]? = _; rw [hw1]; exact HR.out
  have HU1 : Hid (w1.rowIs G.U 5 G.SZ gu) := hK1.row (Ne.symm ok.ru) HU.out
  have HP1 : Hid (w1.rowIs pb t K g) := hK1.row n1 HP.out
  have HD1 : Hid (DA w1 G.B G.da G.n G.D) := HD.out.keep hK1 (Ne.symm ok.rb)
  have HY1 : Hid (YR w1 G.Y G.da G.n c) := HY.out.keep hK1 (Ne.symm ok.ry)
  clear a0 a1 a2 a3 a4 a5 a6 f2 f3 f4 f5 f6 hw1 HR HU HP HD HY
  obtain ⟨b0, b1, b2, b3, b4, b5, b6⟩ := rcells_at HR1.out
  go_wp2_with (go_at_call 47; refine (yread_some G.Y G.B G.n c G.da G.D pb po L pc t K g w1 hnm (by omega) (by omega) hcn (by exact HY1.out) (by exact HD1.out) (by exact HP1.out) (by omega) n3 k HKK.out).mono ?_; rintro e w2 ⟨rfl, hY2, hP2, hk4⟩; have HY2 : Hid (YR w2 G.Y G.da G.n (c + k)) := hY2; have HP2 : Hid (w2.rowIs pb t K (over g po k (fun j => .int .u8 (G.D (c + j))))) := hP2; have HR2 : Hid (w2.heap[G.R]? = some (.cells (rcells G r r .nilIface lb lr) 44 (0, 0))) := hk4.heap nRU HR1.out; have p1 : w2.cell? ⟨pb, po + (k - 1), none⟩ = some (.int .u8 (G.D (c + (k - 1)))) := (hP2.cell (by omega)).trans (by rw [over_in (by omega)]); obtain ⟨e0, e1, e2, e3, e4, e5, e6⟩ := rcells_at HR2.out; obtain ⟨f2, f3, f4, f5, f6⟩ := rcells_free HR2.out; clear hY2 hP2 b0 b1 b2 b3 b4 b5 b6)
  obtain ⟨w3, hw3⟩ : ∃ w3, w3 = ((w2.setCell ⟨G.R, 4, none⟩ .nilIface).setCell ⟨G.R, 5, none⟩ (.int .i64 (wrap64 (G.D (c + (k - 1)))))).setCell ⟨G.R, 6, none⟩ (.int .i64 (-1)) := ⟨_, rfl⟩
  rw [← hw3]
  have HR3 : Hid (w3.heap[G.R]? = some (.cells (rcells G r r .nilIface (wrap64 (G.D (c + (k - 1)))) (-1)) 44 (0, 0))) := by
    show w3.heap[G.R]? = _
    rw [hw3]; exact heap_setCell_same _ G.R 6 _ _ _ (heap_setCell_same _ G.R 5 _ _ _ (heap_setCell_same w2 G.R 4 _ _ _ HR2.out))
  have hk5 : Kp (fun y => y = G.R) w2 w3 := by rw [hw3]; exact (((Kp.refl _ _).setCell (by exact rfl) _).setCell (by exact rfl) _).setCell (by exact rfl) _
  clear hw3
  refine (readErr_any G.R _ _ _ _ _ _ _ w3 HR3.out).mono ?_
  rintro e w4 ⟨rfl, hw4⟩
  have HR4 : Hid (w4.heap[G.R]? = some (.cells (rcells G r r .nilIface (wrap64 (G.D (c + (k - 1)))) (-1)) 44 (0, 0))) := by
    show w4.heap[G.R]? = _
    rw [hw4]; exact heap_setCell_same w3 G.R 4 _ _ _ HR3.out
  have hk6 : Kp (fun y => y = G.R) w2 w4 := hk5.trans (by rw [hw4]; exact (Kp.refl _ _).setCell (by exact rfl) _)
  have hK7 : Kp (fun y => y = G.R ∨ y = G.U ∨ y = G.Y ∨ y = pb) w w4 :=
    ((hK1.mono fun y h => Or.inl h).trans (hk4.mono fun y h => h.elim (fun h => Or.inr (Or.inr (Or.inl h))) (fun h => Or.inr (Or.inr (Or.inr h))))).trans (hk6.mono fun y h => Or.inl h)
  have HD2 := HD1.out.keep hk4 (fun h => h.elim (Ne.symm ok.yb) (Ne.symm n4))
  have HU2 := hk4.row (fun h => h.elim ok.uy (Ne.symm n2)) HU1.out
  clear hw4
  go_wp2
  go_ret2
  refine ⟨rfl, ⟨Nat.le_refl _, hk2, HD2.keep hk6 (Ne.symm ok.rb), HY2.out.keep hk6 (Ne.symm ok.ry), r, wrap64 (G.D (c + (k - 1))), -1, gu, by omega, HR4.out.trans (by rw [show r + (c + k - (c + k)) = r from by omega]), hk6.row (Ne.symm ok.ru) HU2, fun j hj => by omega, HG.out⟩, hk6.row n1 HP2.out, hK7⟩

set_option maxHeartbeats 2000000 in
/-- Read, all has been handed out: (0, io.EOF). -/
theorem read_end (G : Geo) (ok : G.Ok) (pb po L pc t K : Nat) (g : Nat → Value) (ae : Addr) (w : World) (hL : 0 < L) (hLm : L ≤ 1048576) (hI : RI G w G.n G.n) (hE : w.cell? ⟨0, 0, none⟩ = some (.iface 68 (.pointer (some ae)))) :
    Calls Tryf.prog 45 #[.pointer (some ⟨G.R, 0, none⟩), .slice (some ⟨pb, po, none⟩) L pc] w fun e w' => e = .returned (.tuple #[.int .i64 0, .iface 68 (.pointer (some ae))]) ∧ RI G w' G.n G.n ∧ Kp (fun x => x = G.R) w w' := by
  obtain ⟨h1, h2, hD, hY, r, lb, lr, gu, hr, hR, hU, hg, hby⟩ := hI
  rw [show r + (G.n - G.n) = r from by omega] at hR hr
  obtain ⟨a0, a1, a2, a3, a4, a5, a6⟩ := rcells_at hR
  obtain ⟨f2, f3, f4, f5, f6⟩ := rcells_free hR
  have hsz := ok.szmax
  have hsz1 := ok.sz16
  have hnm := ok.nmax
  have hL0 : ((L : Int) == 0) = false := beq_eq_false_iff_ne.mpr (by omega)
  have HD : Hid (DA w G.B G.da G.n G.D) := hD
  have HY : Hid (YR w G.Y G.da G.n G.n) := hY
  have HR : Hid (w.heap[G.R]? = some (.cells (rcells G r r .nilIface lb lr) 44 (0, 0))) := hR
  have HU : Hid (w.rowIs G.U 5 G.SZ gu) := hU
  have HG : Hid (∀ j, j < G.SZ → ∃ z : Int, gu j = .int .u8 z) := hby
  have HE : Hid (w.cell? ⟨0, 0, none⟩ = some (.iface 68 (.pointer (some ae)))) := hE
  clear hD hY hR hU hg hby hE
  have hR0 : (⟨0, 0, none⟩ : Addr).block ≠ G.R := by have := ok.r8; show 0 ≠ G.R; omega
  go_enter Tryf.func45, Tryf.ntmps45
  go_wp2
  go_quiet (fail)
  by_cases hLs : G.SZ ≤ L
  · obtain ⟨w1, hw1⟩ : ∃ w1, w1 = w.drewN nq := ⟨_, rfl⟩
    rw [← hw1]
    have hK1 : Kp (fun y => y = G.R) w w1 := by rw [hw1]; exact (Kp.refl _ _).drewN nq
    have HR1 : Hid (w1.heap[G.R]? = some (.cells (rcells G r r .nilIface lb lr) 44 (0, 0))) := by show w1.heap[G.R]? = _; rw [hw1]; exact HR.out
    have HU1 : Hid (w1.rowIs G.U 5 G.SZ gu) := hK1.row (Ne.symm ok.ru) HU.out
    have HD1 : Hid (DA w1 G.B G.da G.n G.D) := HD.out.keep hK1 (Ne.symm ok.rb)
    have HY1 : Hid (YR w1 G.Y G.da G.n G.n) := HY.out.keep hK1 (Ne.symm ok.ry)
    have HE1 : Hid (w1.cell? ⟨0, 0, none⟩ = some (.iface 68 (.pointer (some ae)))) := hK1.cell hR0 HE.out
    clear a0 a1 a2 a3 a4 a5 a6 f2 f3 f4 f5 f6 hw1 HR HU HD HY
    obtain ⟨b0, b1, b2, b3, b4, b5, b6⟩ := rcells_at HR1.out
    go_wp2_with (go_at_call 47; refine (yread_end G.Y G.n G.da (.iface 68 (.pointer (some ae))) (some ⟨pb, po, none⟩) L pc w1 hnm (by exact HY1.out) HE1.out).mono ?_; rintro e w2 ⟨rfl, q, hw2⟩; have hk4 : Kp (fun y => y = G.R) w1 w2 := (by rw [hw2]; exact (Kp.refl _ _).drewN q); have HR2 : Hid (w2.heap[G.R]? = some (.cells (rcells G r r .nilIface lb lr) 44 (0, 0))) := (by show w2.heap[G.R]? = _; rw [hw2]; exact HR1.out); obtain ⟨e0, e1, e2, e3, e4, e5, e6⟩ := rcells_at HR2.out; obtain ⟨f2, f3, f4, f5, f6⟩ := rcells_free HR2.out; clear hw2 b0 b1 b2 b3 b4 b5 b6)
    obtain ⟨w3, hw3⟩ : ∃ w3, w3 = w2.setCell ⟨G.R, 4, none⟩ (.iface 68 (.pointer (some ae))) := ⟨_, rfl⟩
    rw [← hw3]
    have HR3 : Hid (w3.heap[G.R]? = some (.cells (rcells G r r (.iface 68 (.pointer (some ae))) lb lr) 44 (0, 0))) := by
      show w3.heap[G.R]? = _
      rw [hw3]; exact heap_setCell_same w2 G.R 4 _ _ _ HR2.out
    have hk5 : Kp (fun y => y = G.R) w1 w3 := hk4.trans (by rw [hw3]; exact (Kp.refl _ _).setCell (by exact rfl) _)
    clear hw3
    refine (readErr_any G.R _ _ _ _ _ _ _ w3 HR3.out).mono ?_
    rintro e w4 ⟨rfl, hw4⟩
    have HR4 : Hid (w4.heap[G.R]? = some (.cells (rcells G r r .nilIface lb lr) 44 (0, 0))) := by
      show w4.heap[G.R]? = _
      rw [hw4]; exact heap_setCell_same w3 G.R 4 _ _ _ HR3.out
    have hk6 : Kp (fun y => y = G.R) w1 w4 := hk5.trans (by rw [hw4]; exact (Kp.refl _ _).setCell (by exact rfl) _)
    clear hw4
    go_wp2
    go_ret2
    exact ⟨rfl, ⟨Nat.le_refl _, Nat.le_refl _, HD1.out.keep hk6 (Ne.symm ok.rb), HY1.out.keep hk6 (Ne.symm ok.ry), r, lb, lr, gu, by omega, HR4.out.trans (by rw [show r + (G.n - G.n) = r from by omega]), hk6.row (Ne.symm ok.ru) HU1.out, fun j hj => by omega, HG.out⟩, hK1.trans hk6⟩
  · go_wp2
    obtain ⟨w1, hw1⟩ : ∃ w1, w1 = ((w.drewN nq).setCell ⟨G.R, 2, none⟩ (.int .i64 0)).setCell ⟨G.R, 3, none⟩ (.int .i64 0) := ⟨_, rfl⟩
    rw [← hw1]
    have hK1 : Kp (fun y => y = G.R) w w1 := by rw [hw1]; exact (((Kp.refl _ _).drewN nq).setCell (by exact rfl) _).setCell (by exact rfl) _
    have HR1 : Hid (w1.heap[G.R]? = some (.cells (rcells G 0 0 .nilIface lb lr) 44 (0, 0))) := by
      show w1.heap[G.R]? = _
      rw [hw1]; exact heap_setCell_same _ G.R 3 _ _ _ (heap_setCell_same (w.drewN nq) G.R 2 _ _ _ HR.out)
    have HU1 : Hid (w1.rowIs G.U 5 G.SZ gu) := hK1.row (Ne.symm ok.ru) HU.out
    have HD1 : Hid (DA w1 G.B G.da G.n G.D) := HD.out.keep hK1 (Ne.symm ok.rb)
    have HY1 : Hid (YR w1 G.Y G.da G.n G.n) := HY.out.keep hK1 (Ne.symm ok.ry)
    have HE1 : Hid (w1.cell? ⟨0, 0, none⟩ = some (.iface 68 (.pointer (some ae)))) := hK1.cell hR0 HE.out
    clear a0 a1 a2 a3 a4 a5 a6 f2 f3 f4 f5 f6 hw1 HR HU HD HY
    obtain ⟨b0, b1, b2, b3, b4, b5, b6⟩ := rcells_at HR1.out
    go_region_held (fun w' => w'.cell? ⟨G.R, 0, none⟩ = some (.slice (some ⟨G.U, 0, none⟩) G.SZ G.SZ) ∧ w'.cell? ⟨G.R, 1, none⟩ = some (.iface 34 (.pointer (some ⟨G.Y, 0, none⟩))))
      (first | exact ⟨b0, b1⟩ | exact ⟨e0, e1⟩ | exact ⟨(World.cell?_setCell_other _ _ _ _ (by simp)).trans e0, (World.cell?_setCell_other _ _ _ _ (by simp)).trans e1⟩)
      ((go_at_call 47; refine (yread_end G.Y G.n G.da (.iface 68 (.pointer (some ae))) (some ⟨G.U, 0, none⟩) G.SZ G.SZ w1.drew hnm (by exact HY1.out) (by exact HE1.out)).mono ?_; rintro e w2 ⟨rfl, q, hw2⟩; have hk4 : Kp (fun y => y = G.R) w1 w2 := (by rw [hw2]; exact ((Kp.refl _ _).drewN 1).drewN q); have HR2 : Hid (w2.heap[G.R]? = some (.cells (rcells G 0 0 .nilIface lb lr) 44 (0, 0))) := (by show w2.heap[G.R]? = _; rw [hw2]; exact HR1.out); obtain ⟨e0, e1, e2, e3, e4, e5, e6⟩ := rcells_at HR2.out; obtain ⟨f2, f3, f4, f5, f6⟩ := rcells_free HR2.out; clear hw2))
    clear b0 b1 b2 b3 b4 b5 b6
    go_wp2_with fail
    obtain ⟨w3, hw3⟩ : ∃ w3, w3 = w2.setCell ⟨G.R, 4, none⟩ (.iface 68 (.pointer (some ae))) := ⟨_, rfl⟩
    rw [← hw3]
    have HR3 : Hid (w3.heap[G.R]? = some (.cells (rcells G 0 0 (.iface 68 (.pointer (some ae))) lb lr) 44 (0, 0))) := by
      show w3.heap[G.R]? = _
      rw [hw3]; exact heap_setCell_same w2 G.R 4 _ _ _ HR2.out
    have hk5 : Kp (fun y => y = G.R) w1 w3 := hk4.trans (by rw [hw3]; exact (Kp.refl _ _).setCell (by exact rfl) _)
    clear hw3
    refine (readErr_any G.R _ _ _ _ _ _ _ w3 HR3.out).mono ?_
    rintro e w4 ⟨rfl, hw4⟩
    have HR4 : Hid (w4.heap[G.R]? = some (.cells (rcells G 0 0 .nilIface lb lr) 44 (0, 0))) := by
      show w4.heap[G.R]? = _
      rw [hw4]; exact heap_setCell_same w3 G.R 4 _ _ _ HR3.out
    have hk6 : Kp (fun y => y = G.R) w1 w4 := hk5.trans (by rw [hw4]; exact (Kp.refl _ _).setCell (by exact rfl) _)
    clear hw4
    go_wp2
    go_ret2
    exact ⟨rfl, ⟨Nat.le_refl _, Nat.le_refl _, HD1.out.keep hk6 (Ne.symm ok.rb), HY1.out.keep hk6 (Ne.symm ok.ry), 0, lb, lr, gu, by omega, HR4.out.trans (by rw [show 0 + (G.n - G.n) = 0 from by omega]), hk6.row (Ne.symm ok.ru) HU1.out, fun j hj => by omega, HG.out⟩, hK1.trans hk6⟩
end Go.Proofs.Qxb6618769aFmt
