import Derived.Test.Qxb6618769aFmtRead
namespace Go.Proofs.Qxb6618769aFmt
open Go.RowKit
set_option linter.unusedVariables false
set_option maxRecDepth 100000

theorem ret_int {k : IntKind} {a b : Int} (h : a = b) : Ending.returned (.int k a) = .returned (.int k b) := by rw [h]

theorem YR.keep {s : Nat → Prop} {w w' : World} {Y : Nat} {da : Option Addr} {n pos : Nat} (h : YR w Y da n pos) (hk : Kp s w w') (hs : ¬ s Y) : YR w' Y da n pos :=
  let ⟨pr, hp⟩ := h
  ⟨pr, hk.heap hs hp⟩

/-- The reader's blocks and the data behind it. R: the bufio.Reader; U: its buffer, SZ bytes; Y: the bytes.Reader; B: the data, n bytes D. -/
structure Geo where
  R : Nat
  U : Nat
  Y : Nat
  B : Nat
  SZ : Nat
  n : Nat
  da : Option Addr
  D : Nat → Int
/-- They are blocks of their own, and none is a package-level variable's. -/
structure Geo.Ok (G : Geo) : Prop where
  nmax : G.n ≤ 1048576
  sz16 : 16 ≤ G.SZ
  szmax : G.SZ ≤ 65536
  ru : G.R ≠ G.U
  ry : G.R ≠ G.Y
  uy : G.U ≠ G.Y
  rb : G.R ≠ G.B
  ub : G.U ≠ G.B
  yb : G.Y ≠ G.B
  r8 : 8 ≤ G.R
  u8 : 8 ≤ G.U
  y8 : 8 ≤ G.Y

/-- The cells of a bufio.Reader. -/
def rcells (G : Geo) (r x : Nat) (err : Value) (lb lr : Int) : Array Value :=
  #[.slice (some ⟨G.U, 0, none⟩) G.SZ G.SZ, .iface 34 (.pointer (some ⟨G.Y, 0, none⟩)), .int .i64 (r : Int), .int .i64 (x : Int), err, .int .i64 lb, .int .i64 lr]

/-- The reader has handed out c bytes; the stream stands at pos: the buffer holds what lies between. -/
def RI (G : Geo) (w : World) (c pos : Nat) : Prop :=
  c ≤ pos ∧ pos ≤ G.n ∧ DA w G.B G.da G.n G.D ∧ YR w G.Y G.da G.n pos ∧
  ∃ (r : Nat) (lb lr : Int) (g : Nat → Value), r + (pos - c) ≤ G.SZ ∧ w.heap[G.R]? = some (.cells (rcells G r (r + (pos - c)) .nilIface lb lr) 44 (0, 0)) ∧ w.rowIs G.U 5 G.SZ g ∧
    (∀ j, j < pos - c → g (r + j) = .int .u8 (G.D (c + j))) ∧ ∀ j, j < G.SZ → ∃ z : Int, g j = .int .u8 z

set_option maxHeartbeats 400000 in
theorem readErr_any (R : Nat) (c0 c1 c2 c3 ev c5 c6 : Value) (w : World) (h : w.heap[R]? = some (.cells #[c0, c1, c2, c3, ev, c5, c6] 44 (0, 0))) :
    Calls Tryf.prog 26 #[.pointer (some ⟨R, 0, none⟩)] w fun e w' => e = .returned ev ∧ w' = w.setCell ⟨R, 4, none⟩ .nilIface := by
  have h4 : w.cell? ⟨R, 4, none⟩ = some ev := by rw [cell_of_row _ _ _ _ _ _ h]; rfl
  have f4 := frozen_of_row _ _ 4 _ _ h
  clear h
  go_enter Tryf.func26, Tryf.ntmps26
  go_wp2
  go_ret
  exact ⟨rfl, rfl⟩

set_option maxHeartbeats 400000 in
theorem buffered_any (R r x : Nat) (c0 c1 c4 c5 c6 : Value) (w : World) (hr : r ≤ x) (hx : x ≤ 65536) (h : w.heap[R]? = some (.cells #[c0, c1, .int .i64 (r : Int), .int .i64 (x : Int), c4, c5, c6] 44 (0, 0))) :
    Calls Tryf.prog 18 #[.pointer (some ⟨R, 0, none⟩)] w fun e w' => e = .returned (.int .i64 ((x - r : Nat) : Int)) ∧ ∃ q, w' = w.drewN q := by
  have h2 : w.cell? ⟨R, 2, none⟩ = some (.int .i64 (r : Int)) := by rw [cell_of_row _ _ _ _ _ _ h]; rfl
  have h3 : w.cell? ⟨R, 3, none⟩ = some (.int .i64 (x : Int)) := by rw [cell_of_row _ _ _ _ _ _ h]; rfl
  clear h
  go_enter Tryf.func18, Tryf.ntmps18
  go_wp2
  go_quiet (fail)
  go_wp2
  go_ret
  exact ⟨ret_int (by omega), _, rfl⟩

theorem rcells_at {G : Geo} {w : World} {r x : Nat} {err : Value} {lb lr : Int} (h : w.heap[G.R]? = some (.cells (rcells G r x err lb lr) 44 (0, 0))) :
    w.cell? ⟨G.R, 0, none⟩ = some (.slice (some ⟨G.U, 0, none⟩) G.SZ G.SZ) ∧ w.cell? ⟨G.R, 1, none⟩ = some (.iface 34 (.pointer (some ⟨G.Y, 0, none⟩))) ∧ w.cell? ⟨G.R, 2, none⟩ = some (.int .i64 (r : Int)) ∧
    w.cell? ⟨G.R, 3, none⟩ = some (.int .i64 (x : Int)) ∧ w.cell? ⟨G.R, 4, none⟩ = some err ∧ w.cell? ⟨G.R, 5, none⟩ = some (.int .i64 lb) ∧ w.cell? ⟨G.R, 6, none⟩ = some (.int .i64 lr) := by
  refine ⟨?_, ?_, ?_, ?_, ?_, ?_, ?_⟩ <;> (rw [cell_of_row _ _ _ _ _ _ h]; rfl)
theorem rcells_free {G : Geo} {w : World} {C : Array Value} (h : w.heap[G.R]? = some (.cells C 44 (0, 0))) :
    w.frozen? ⟨G.R, 2, none⟩ = false ∧ w.frozen? ⟨G.R, 3, none⟩ = false ∧ w.frozen? ⟨G.R, 4, none⟩ = false ∧ w.frozen? ⟨G.R, 5, none⟩ = false ∧ w.frozen? ⟨G.R, 6, none⟩ = false :=
  ⟨frozen_of_row _ _ _ _ _ h, frozen_of_row _ _ _ _ _ h, frozen_of_row _ _ _ _ _ h, frozen_of_row _ _ _ _ _ h, frozen_of_row _ _ _ _ _ h⟩

set_option maxHeartbeats 2000000 in
/-- Read, bytes in the buffer: they are handed out. -/
theorem read_buf (G : Geo) (ok : G.Ok) (c pos pb po L pc t K : Nat) (g : Nat → Value) (w : World) (hL : 0 < L) (hLm : L ≤ 1048576) (hI : RI G w c pos) (hcp : c < pos)
    (hP : w.rowIs pb t K g) (hfit : po + L ≤ K) (n1 : pb ≠ G.R) (n2 : pb ≠ G.U) (k : Nat) (hk : k = min L (pos - c)) (n3 : pb ≠ G.Y) (n4 : pb ≠ G.B) :
    Calls Tryf.prog 45 #[.pointer (some ⟨G.R, 0, none⟩), .slice (some ⟨pb, po, none⟩) L pc] w fun e w' => e = .returned (.tuple #[.int .i64 (k : Int), .nilIface]) ∧ RI G w' (c + k) pos ∧
      w'.rowIs pb t K (over g po k (fun j => .int .u8 (G.D (c + j)))) ∧ Kp (fun x => x = G.R ∨ x = pb) w w' := by
  obtain ⟨h1, h2, hD, hY, r, lb, lr, gu, hr, hR, hU, hg, hby⟩ := hI
  obtain ⟨a0, a1, a2, a3, a4, a5, a6⟩ := rcells_at hR
  obtain ⟨f2, f3, f4, f5, f6⟩ := rcells_free hR
  have hsz := ok.szmax
  have hL0 : ((L : Int) == 0) = false := beq_eq_false_iff_ne.mpr (by omega)
  have hrx : ((r : Int) == ((r + (pos - c) : Nat) : Int)) = false := beq_eq_false_iff_ne.mpr (by omega)
  have HP : Hid (w.rowIs pb t K g) := hP
  have HD : Hid (DA w G.B G.da G.n G.D) := hD
  have HY : Hid (YR w G.Y G.da G.n pos) := hY
  have HR : Hid (w.heap[G.R]? = some (.cells (rcells G r (r + (pos - c)) .nilIface lb lr) 44 (0, 0))) := hR
  have HU : Hid (w.rowIs G.U 5 G.SZ gu) := hU
  have HG : Hid ((∀ j, j < pos - c → gu (r + j) = .int .u8 (G.D (c + j))) ∧ ∀ j, j < G.SZ → ∃ z : Int, gu j = .int .u8 z) := ⟨hg, hby⟩
  have hk1 : k ≤ L := by omega
  have hk2 : k ≤ pos - c := by omega
  have hk3 : 1 ≤ k := by omega
  have HK : Hid (k = min L (pos - c)) := hk
  clear hP hD hY hR hU hg hby hk
  obtain ⟨x, hx⟩ : ∃ x, x = r + (pos - c) := ⟨_, rfl⟩
  rw [← hx] at a3 hrx hr
  have hrx1 : r < x := by omega
  have hrk : r + k ≤ x := by omega
  have HX : Hid (x = r + (pos - c)) := hx
  clear hx
  go_enter Tryf.func45, Tryf.ntmps45
  go_wp2
  go_quiet (fail)
  go_wp2
  obtain ⟨w1, hw1⟩ : ∃ w1, w1 = w.drewN nq := ⟨_, rfl⟩
  rw [← hw1]
  have hK1 : Kp (fun y => y = G.R ∨ y = pb) w w1 := by rw [hw1]; exact (Kp.refl _ _).drewN nq
  have HR1 : Hid (w1.heap[G.R]? = some (.cells (rcells G r x .nilIface lb lr) 44 (0, 0))) := by show w1.heap[G.R]? = _; rw [hw1, HX.out]; exact HR.out
  have HU1 : Hid (w1.rowIs G.U 5 G.SZ gu) := by show w1.rowIs _ _ _ _; rw [hw1]; exact HU.out
  have HP1 : Hid (w1.rowIs pb t K g) := by show w1.rowIs _ _ _ _; rw [hw1]; exact HP.out
  have HD1 : Hid (DA w1 G.B G.da G.n G.D) := by show DA w1 _ _ _ _; rw [hw1]; exact HD.out
  have HY1 : Hid (YR w1 G.Y G.da G.n pos) := by show YR w1 _ _ _ _; rw [hw1]; exact HY.out
  clear a0 a1 a2 a3 a4 a5 a6 f2 f3 f4 f5 f6 hw1 HR HU HP HD HY
  obtain ⟨b0, b1, b2, b3, b4, b5, b6⟩ := rcells_at HR1.out
  have nR : G.R ≠ pb := Ne.symm n1
  go_region_held_law (fun w' => w'.cell? ⟨G.R, 0, none⟩ = some (.slice (some ⟨G.U, 0, none⟩) G.SZ G.SZ) ∧ w'.cell? ⟨G.R, 2, none⟩ = some (.int .i64 (r : Int)) ∧ w'.cell? ⟨G.R, 3, none⟩ = some (.int .i64 (x : Int)))
    (first | exact ⟨b0, b2, b3⟩ | exact ⟨Kp.cell (s := fun y => y = pb) (w := w1) (by assumption) (by exact nR) b0, Kp.cell (s := fun y => y = pb) (w := w1) (by assumption) (by exact nR) b2, Kp.cell (s := fun y => y = pb) (w := w1) (by assumption) (by exact nR) b3⟩)
    ((refine step_copy_fn rfl (.tmp 109) (.tmp 122) 22 22 rfl 5 Tryf.underlying22 size1 pb po L pc G.U r (x - r) (G.SZ - r) k t K g (fun j => .int .u8 (G.D (c + j))) rfl rfl ?h1 HP1.out (by omega) ?h2 (fun j hj => rfl) ?_; (case h1 => (rw [HK.out, HX.out, show r + (pos - c) - r = pos - c from by omega]; exact Nat.min_comm _ _)); (case h2 => (intro j hj; exact (HU1.out.cell (i := r + j) (by have := HX.out; omega)).trans (by rw [HG.out.1 j (by omega)]))); intro w2 HR2 hk2' hz2; have hk3 := hk2'.fromDrew; clear hk2'))
  have HR2' : Hid (w2.heap[G.R]? = some (.cells (rcells G r x .nilIface lb lr) 44 (0, 0))) := hk3.heap nR HR1.out
  obtain ⟨d0, d1, d2, d3, d4, d5, d6⟩ := rcells_at HR2'.out
  obtain ⟨f2, f3, f4, f5, f6⟩ := rcells_free HR2'.out
  have hK2 : Kp (fun y => y = G.R ∨ y = pb) w w2 := hK1.trans (hk3.mono fun y h => Or.inr h)
  have HU2 : Hid (w2.rowIs G.U 5 G.SZ gu) := hk3.row (Ne.symm n2) HU1.out
  have HD2 : Hid (DA w2 G.B G.da G.n G.D) := DA.keep HD1.out hk3 (Ne.symm n4)
  have HY2 : Hid (YR w2 G.Y G.da G.n pos) := HY1.out.keep hk3 (Ne.symm n3)
  clear hk3 hK1 hz2 b0 b1 b2 b3 b4 b5 b6 HR1 HU1 HD1 HY1 HP1
  go_wp2
  obtain ⟨w3, hw3⟩ : ∃ w3, w3 = w2.setCell ⟨G.R, 2, none⟩ (.int .i64 ((r : Int) + (k : Int))) := ⟨_, rfl⟩
  rw [← hw3]
  have hK3 : Kp (fun y => y = G.R) w2 w3 := by rw [hw3]; exact (Kp.refl _ _).setCell (by exact rfl) _
  have HR3 : Hid (w3.heap[G.R]? = some (.cells (rcells G (r + k) x .nilIface lb lr) 44 (0, 0))) := by
    show w3.heap[G.R]? = _
    rw [hw3, heap_setCell_same w2 G.R 2 _ _ _ HR2'.out, show (r : Int) + (k : Int) = ((r + k : Nat) : Int) from by omega]; rfl
  have u1 : w3.cell? ⟨G.U, r + k - 1, none⟩ = some (.int .u8 (G.D (c + (k - 1)))) := by
    refine hK3.cell (by exact Ne.symm ok.ru) ?_
    rw [HU2.out.cell (i := r + k - 1) (by omega), show r + k - 1 = r + (k - 1) from by omega, HG.out.1 (k - 1) (by omega)]
  have HU3 : Hid (w3.rowIs G.U 5 G.SZ gu) := hK3.row (Ne.symm ok.ru) HU2.out
  have HD3 : Hid (DA w3 G.B G.da G.n G.D) := DA.keep HD2.out hK3 (Ne.symm ok.rb)
  have HY3 : Hid (YR w3 G.Y G.da G.n pos) := HY2.out.keep hK3 (Ne.symm ok.ry)
  have HP3 : Hid (w3.rowIs pb t K (over g po k (fun j => .int .u8 (G.D (c + j))))) := hK3.row n1 HR2.out
  have hK4 : Kp (fun y => y = G.R ∨ y = pb) w w3 := hK2.trans (hK3.mono fun y h => Or.inl h)
  clear hK3 hK2 hw3 d0 d1 d2 d3 d4 d5 d6 f2 f3 f4 f5 f6 HR2' HU2 HD2 HY2 HR2
  obtain ⟨d0, d1, d2, d3, d4, d5, d6⟩ := rcells_at HR3.out
  obtain ⟨f2, f3, f4, f5, f6⟩ := rcells_free HR3.out
  have hz : (r : Int) + (k : Int) - 1 = ((r + k - 1 : Nat) : Int) := by omega
  go_region
  go_wp2
  go_ret2
  have hK5 : Kp (fun y => y = G.R) w3 (((w3.setCell ⟨G.R, 5, none⟩ (.int .i64 (wrap64 (G.D (c + (k - 1)))))).setCell ⟨G.R, 6, none⟩ (.int .i64 (-1))).drewN 1) :=
    (((Kp.refl _ _).setCell (by exact rfl) _).setCell (by exact rfl) _).drewN 1
  have hx := HX.out
  refine ⟨rfl, ⟨by omega, h2, HD3.out.keep hK5 (Ne.symm ok.rb), HY3.out.keep hK5 (Ne.symm ok.ry), r + k, wrap64 (G.D (c + (k - 1))), -1, gu, by omega, ?_, hK5.row (Ne.symm ok.ru) HU3.out, fun j hj => ?_, HG.out.2⟩, hK5.row n1 HP3.out, hK4.trans (hK5.mono fun y h => Or.inl h)⟩
  · exact (heap_setCell_same _ G.R 6 _ _ _ (heap_setCell_same w3 G.R 5 _ _ _ HR3.out)).trans (by rw [show r + k + (pos - (c + k)) = x from by omega]; rfl)
  · rw [show r + k + j = r + (k + j) from by omega, HG.out.1 (k + j) (by omega), show c + (k + j) = c + k + j from by omega]

end Go.Proofs.Qxb6618769aFmt
