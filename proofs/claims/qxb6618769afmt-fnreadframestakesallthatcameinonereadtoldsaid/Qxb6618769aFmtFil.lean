import Derived.Test.Qxb6618769aFmtBuf
import Derived.Deep.RegionHeld
namespace Go.Proofs.Qxb6618769aFmt
open Go.RowKit
set_option linter.unusedVariables false
set_option maxRecDepth 100000

theorem meth34 (x : Value) (w : World) : (method 193 34 x "Read").run Tryf.prog w = .ok (47, x) w := by kernel_rfl
theorem meth28 (x : Value) (w : World) : (method 193 28 x "Read").run Tryf.prog w = .ok (45, x) w := by kernel_rfl
attribute [local go_sem] meth34 meth28

set_option maxHeartbeats 2000000 in
/-- Read, nothing in the buffer, less asked for than the buffer holds: the buffer is filled by one read of the stream, and handed out. -/
theorem read_fill (G : Geo) (ok : G.Ok) (c pb po L pc t K : Nat) (g : Nat → Value) (w : World) (hL : 0 < L) (hLs : L < G.SZ) (hI : RI G w c c) (hcn : c < G.n)
    (hP : w.rowIs pb t K g) (hfit : po + L ≤ K) (n1 : pb ≠ G.R) (n2 : pb ≠ G.U) (pos k : Nat) (hpos : pos = c + min G.SZ (G.n - c)) (hk : k = min L (pos - c)) (n3 : pb ≠ G.Y) (n4 : pb ≠ G.B) :
    Calls Tryf.prog 45 #[.pointer (some ⟨G.R, 0, none⟩), .slice (some ⟨pb, po, none⟩) L pc] w fun e w' => e = .returned (.tuple #[.int .i64 (k : Int), .nilIface]) ∧ RI G w' (c + k) pos ∧
      w'.rowIs pb t K (over g po k (fun j => .int .u8 (G.D (c + j)))) ∧ Kp (fun x => x = G.R ∨ x = G.U ∨ x = G.Y ∨ x = pb) w w' := by
  obtain ⟨h1, h2, hD, hY, rr, lb, lr, gu0, hr, hR, hU, hg, hby⟩ := hI
  rw [show rr + (c - c) = rr from by omega] at hR hr
  obtain ⟨a0, a1, a2, a3, a4, a5, a6⟩ := rcells_at hR
  obtain ⟨f2, f3, f4, f5, f6⟩ := rcells_free hR
  have hsz := ok.szmax
  have hsz1 := ok.sz16
  have hnm := ok.nmax
  obtain ⟨m, hm⟩ : ∃ m, m = min G.SZ (G.n - c) := ⟨_, rfl⟩
  have hm1 : 1 ≤ m := by omega
  have hm2 : m ≤ G.SZ := by omega
  have hm3 : c + m ≤ G.n := by omega
  have hpm : pos = c + m := by omega
  have HM : Hid (m = min G.SZ (G.n - c)) := hm
  have hL0 : ((L : Int) == 0) = false := beq_eq_false_iff_ne.mpr (by omega)
  have hm0 : ((m : Int) == 0) = false := beq_eq_false_iff_ne.mpr (by omega)
  have HP : Hid (w.rowIs pb t K g) := hP
  have HD : Hid (DA w G.B G.da G.n G.D) := hD
  have HY : Hid (YR w G.Y G.da G.n c) := hY
  have HR : Hid (w.heap[G.R]? = some (.cells (rcells G rr rr .nilIface lb lr) 44 (0, 0))) := hR
  have HU : Hid (w.rowIs G.U 5 G.SZ gu0) := hU
  have hk1 : k ≤ L := by omega
  have hk2 : k ≤ m := by omega
  have hk3 : 1 ≤ k := by omega
  have HK : Hid (k = min L m) := by show k = min L m; omega
  have HG : Hid (∀ j, j < G.SZ → ∃ z : Int, gu0 j = .int .u8 z) := hby
  clear hP hD hY hR hU hg hby hk hm hpos
  go_enter Tryf.func45, Tryf.ntmps45
  go_wp2
  go_quiet (fail)
  go_wp2
  obtain ⟨wB, hwB⟩ : ∃ wB, wB = ((w.drewN nq).setCell ⟨G.R, 2, none⟩ (.int .i64 0)).setCell ⟨G.R, 3, none⟩ (.int .i64 0) := ⟨_, rfl⟩
  rw [← hwB]
  have hK1 : Kp (fun y => y = G.R) w wB := by rw [hwB]; exact (((Kp.refl _ _).drewN nq).setCell (by exact rfl) _).setCell (by exact rfl) _
  have HR1 : Hid (wB.heap[G.R]? = some (.cells (rcells G 0 0 .nilIface lb lr) 44 (0, 0))) := by
    show wB.heap[G.R]? = _
    rw [hwB]; exact heap_setCell_same _ G.R 3 _ _ _ (heap_setCell_same (w.drewN nq) G.R 2 _ _ _ HR.out)
  have HU1 : Hid (wB.rowIs G.U 5 G.SZ gu0) := hK1.row (Ne.symm ok.ru) HU.out
  have HP1 : Hid (wB.rowIs pb t K g) := hK1.row n1 HP.out
  have HD1 : Hid (DA wB G.B G.da G.n G.D) := HD.out.keep hK1 (Ne.symm ok.rb)
  have HY1 : Hid (YR wB G.Y G.da G.n c) := HY.out.keep hK1 (Ne.symm ok.ry)
  clear a0 a1 a2 a3 a4 a5 a6 f2 f3 f4 f5 f6 hwB HR HU HP HD HY
  obtain ⟨b0, b1, b2, b3, b4, b5, b6⟩ := rcells_at HR1.out
  have nRU : ¬ (G.R = G.Y ∨ G.R = G.U) := fun h => h.elim ok.ry ok.ru
  go_region_held (fun w' => w'.cell? ⟨G.R, 0, none⟩ = some (.slice (some ⟨G.U, 0, none⟩) G.SZ G.SZ) ∧ w'.cell? ⟨G.R, 1, none⟩ = some (.iface 34 (.pointer (some ⟨G.Y, 0, none⟩))))
    (first | exact ⟨b0, b1⟩ | exact ⟨e0, e1⟩ | exact ⟨(World.cell?_setCell_other _ _ _ _ (by simp)).trans e0, (World.cell?_setCell_other _ _ _ _ (by simp)).trans e1⟩)
    ((go_at_call 47; go_loud (refine (yread_some G.Y G.B G.n c G.da G.D G.U 0 G.SZ G.SZ 5 G.SZ gu0 wB.drew hnm (by omega) (by omega) hcn (by exact HY1.out) (by exact HD1.out) (by exact HU1.out) (by omega) ok.uy m HM.out).mono ?_); rintro e w2 ⟨rfl, hY2, hU2, hk2'⟩; have HY2 : Hid (YR w2 G.Y G.da G.n (c + m)) := hY2; have HU2 : Hid (w2.rowIs G.U 5 G.SZ (over gu0 0 m (fun j => .int .u8 (G.D (c + j))))) := hU2; have hk4 : Kp (fun x => x = G.Y ∨ x = G.U) wB w2 := ⟨hk2'.os, hk2'.tape, hk2'.output, hk2'.size, hk2'.block⟩; have HR2 : Hid (w2.heap[G.R]? = some (.cells (rcells G 0 0 .nilIface lb lr) 44 (0, 0))) := hk4.heap nRU HR1.out; obtain ⟨e0, e1, e2, e3, e4, e5, e6⟩ := rcells_at HR2.out; obtain ⟨f2, f3, f4, f5, f6⟩ := rcells_free HR2.out; clear hY2 hU2 hk2'))
  have HP2 : Hid (w2.rowIs pb t K g) := hk4.row (fun h => h.elim n3 n2) HP1.out
  have HD2 : Hid (DA w2 G.B G.da G.n G.D) := HD1.out.keep hk4 (fun h => h.elim (Ne.symm ok.yb) (Ne.symm ok.ub))
  clear b0 b1 b2 b3 b4 b5 b6
  go_wp2
  obtain ⟨w1, hw1⟩ : ∃ w1, w1 = (w2.setCell ⟨G.R, 4, none⟩ .nilIface).setCell ⟨G.R, 3, none⟩ (.int .i64 (m : Int)) := ⟨_, rfl⟩
  rw [← hw1]
  obtain ⟨r, hr0⟩ : ∃ r, r = 0 := ⟨_, rfl⟩
  obtain ⟨x, hx0⟩ : ∃ x, x = r + m := ⟨_, rfl⟩
  obtain ⟨gu, hgu⟩ : ∃ gu, gu = over gu0 0 m (fun j => .int .u8 (G.D (c + j))) := ⟨_, rfl⟩
  have hk5 : Kp (fun y => y = G.R) w2 w1 := by rw [hw1]; exact ((Kp.refl _ _).setCell (by exact rfl) _).setCell (by exact rfl) _
  have HR4 : Hid (w1.heap[G.R]? = some (.cells (rcells G r x .nilIface lb lr) 44 (0, 0))) := by
    show w1.heap[G.R]? = _
    rw [hw1]; exact (heap_setCell_same _ G.R 3 _ _ _ (heap_setCell_same w2 G.R 4 _ _ _ HR2.out)).trans (by rw [hx0, hr0, Nat.zero_add]; rfl)
  have HU4 : Hid (w1.rowIs G.U 5 G.SZ gu) := by show w1.rowIs _ _ _ _; rw [hgu]; exact hk5.row (Ne.symm ok.ru) HU2.out
  have HP4 : Hid (w1.rowIs pb t K g) := hk5.row n1 HP2.out
  have HD4 : Hid (DA w1 G.B G.da G.n G.D) := HD2.out.keep hk5 (Ne.symm ok.rb)
  have HY4 : Hid (YR w1 G.Y G.da G.n pos) := by show YR w1 _ _ _ pos; rw [hpm]; exact HY2.out.keep hk5 (Ne.symm ok.ry)
  have hK6 : Kp (fun y => y = G.R ∨ y = G.U ∨ y = G.Y ∨ y = pb) w w1 :=
    ((hK1.mono fun y h => Or.inl h).trans (hk4.mono fun y h => h.elim (fun h => Or.inr (Or.inr (Or.inl h))) (fun h => Or.inr (Or.inl h)))).trans (hk5.mono fun y h => Or.inl h)
  have HX : Hid (x = r + (pos - c)) := by show x = r + (pos - c); omega
  have HG' : Hid ((∀ j, j < pos - c → gu (r + j) = .int .u8 (G.D (c + j))) ∧ ∀ j, j < G.SZ → ∃ z : Int, gu j = .int .u8 z) := by
    refine ⟨fun j hj => ?_, fun j hj => ?_⟩
    · rw [hgu, hr0]; exact over_in (by omega)
    · rw [hgu]
      by_cases h : j < m
      · exact ⟨_, (by have := over_in (g := gu0) (o := 0) (h := fun j => Value.int .u8 (G.D (c + j))) h; rwa [Nat.zero_add] at this)⟩
      · rw [over_out (.inr (by omega))]; exact HG.out j hj
  have HK' : Hid (k = min L (pos - c)) := by show k = min L (pos - c); have := HK.out; omega
  clear HG HK
  have HG := HG'
  have HK := HK'
  clear HG' HK'
  have hr1 : x ≤ G.SZ := by omega
  have hrx1 : r < x := by omega
  have hrk : r + k ≤ x := by omega
  have hcp : c < pos := by omega
  have hk2' : k ≤ pos - c := by omega
  have h2' : pos ≤ G.n := by omega
  clear h1 h2 hr hr0 hx0 hgu hk5 hw1 hK1 hk4 HR2 HU2 HP2 HD2 HY2 e0 e1 e2 e3 e4 e5 e6 f2 f3 f4 f5 f6 HR1 HU1 HP1 HD1 HY1 hk2 hpm
  have h2 := h2'
  have hk2 := hk2'
  have hr := hr1
  have hK1 := hK6
  have HR1 := HR4
  have HU1 := HU4
  have HP1 := HP4
  have HD1 := HD4
  have HY1 := HY4
  clear h2' hk2' hr1 hK6 HR4 HU4 HP4 HD4 HY4
  obtain ⟨b0, b1, b2, b3, b4, b5, b6⟩ := rcells_at HR1.out
  have nR : G.R ≠ pb := Ne.symm n1
  go_region_held_law (fun w' => w'.cell? ⟨G.R, 0, none⟩ = some (.slice (some ⟨G.U, 0, none⟩) G.SZ G.SZ) ∧ w'.cell? ⟨G.R, 2, none⟩ = some (.int .i64 (r : Int)) ∧ w'.cell? ⟨G.R, 3, none⟩ = some (.int .i64 (x : Int)))
    (first | exact ⟨b0, b2, b3⟩ | exact ⟨Kp.cell (s := fun y => y = pb) (w := w1) (by assumption) (by exact nR) b0, Kp.cell (s := fun y => y = pb) (w := w1) (by assumption) (by exact nR) b2, Kp.cell (s := fun y => y = pb) (w := w1) (by assumption) (by exact nR) b3⟩)
    ((refine step_copy_fn rfl (.tmp 109) (.tmp 122) 22 22 rfl 5 Tryf.underlying22 size1 pb po L pc G.U r (x - r) (G.SZ - r) k t K g (fun j => .int .u8 (G.D (c + j))) rfl rfl ?h1 HP1.out (by omega) ?h2 (fun j hj => rfl) ?_; (case h1 => (rw [HK.out, HX.out, show r + (pos - c) - r = pos - c from by omega]; exact Nat.min_comm _ _)); (case h2 => (intro j hj; exact (HU1.out.cell (i := r + j) (by have := HX.out; omega)).trans (by rw [HG.out.1 j (by omega)]))); intro w2 HR2 hk2' hz2; have hk3 := hk2'.fromDrew; clear hk2'))
  have HR2' : Hid (w2.heap[G.R]? = some (.cells (rcells G r x .nilIface lb lr) 44 (0, 0))) := hk3.heap nR HR1.out
  obtain ⟨d0, d1, d2, d3, d4, d5, d6⟩ := rcells_at HR2'.out
  obtain ⟨f2, f3, f4, f5, f6⟩ := rcells_free HR2'.out
  have hK2 : Kp (fun y => y = G.R ∨ y = G.U ∨ y = G.Y ∨ y = pb) w w2 := hK1.trans (hk3.mono fun y h => Or.inr (Or.inr (Or.inr h)))
  have HU2 : Hid (w2.rowIs G.U 5 G.SZ gu) := hk3.row (Ne.symm n2) HU1.out
  have HD2 : Hid (DA w2 G.B G.da G.n G.D) := DA.keep HD1.out hk3 (Ne.symm n4)
  have HY2 : Hid (YR w2 G.Y G.da G.n pos) := HY1.out.keep hk3 (Ne.symm n3)
  clear hk3 hK1 hz2 b0 b1 b2 b3 b4 b5 b6 HR1 HU1 HD1 HY1 HP1
  go_wp2
  obtain ⟨w3, hw3⟩ : ∃ w3, w3 = w2.setCell ⟨G.R, 2, none⟩ (.int .i64 ((r : Int) + (k : Int))) := ⟨_, rfl⟩
  rw [← hw3]
  have hK3 : Kp (fun y => y = G.R) w2 w3 := by rw [hw3]; exact (Kp.refl _ _).setCell (by exact rfl) _
  have HR3 : Hid (w3.heap[G.R]? = some (.cells (rcells G (r + k) x .nilIface lb lr) 44 (0, 0))) := by
    show w3.heap[G.R]? = _
    rw [hw3, heap_setCell_same w2 G.R 2 _ _ _ HR2'.out, show (r : Int) + (k : Int) = ((r + k : Nat) : Int) from by omega]; rfl
  have u1 : w3.cell? ⟨G.U, r + k - 1, none⟩ = some (.int .u8 (G.D (c + (k - 1)))) := by
    refine hK3.cell (by exact Ne.symm ok.ru) ?_
    rw [HU2.out.cell (i := r + k - 1) (by omega), show r + k - 1 = r + (k - 1) from by omega, HG.out.1 (k - 1) (by omega)]
  have HU3 : Hid (w3.rowIs G.U 5 G.SZ gu) := hK3.row (Ne.symm ok.ru) HU2.out
  have HD3 : Hid (DA w3 G.B G.da G.n G.D) := DA.keep HD2.out hK3 (Ne.symm ok.rb)
  have HY3 : Hid (YR w3 G.Y G.da G.n pos) := HY2.out.keep hK3 (Ne.symm ok.ry)
  have HP3 : Hid (w3.rowIs pb t K (over g po k (fun j => .int .u8 (G.D (c + j))))) := hK3.row n1 HR2.out
  have hK4 : Kp (fun y => y = G.R ∨ y = G.U ∨ y = G.Y ∨ y = pb) w w3 := hK2.trans (hK3.mono fun y h => Or.inl h)
  clear hK3 hK2 hw3 d0 d1 d2 d3 d4 d5 d6 f2 f3 f4 f5 f6 HR2' HU2 HD2 HY2 HR2
  obtain ⟨d0, d1, d2, d3, d4, d5, d6⟩ := rcells_at HR3.out
  obtain ⟨f2, f3, f4, f5, f6⟩ := rcells_free HR3.out
  have hz : (r : Int) + (k : Int) - 1 = ((r + k - 1 : Nat) : Int) := by omega
  go_region
  go_wp2
  go_ret2
  have hK5 : Kp (fun y => y = G.R) w3 (((w3.setCell ⟨G.R, 5, none⟩ (.int .i64 (wrap64 (G.D (c + (k - 1)))))).setCell ⟨G.R, 6, none⟩ (.int .i64 (-1))).drewN 1) :=
    (((Kp.refl _ _).setCell (by exact rfl) _).setCell (by exact rfl) _).drewN 1
  have hx := HX.out
  refine ⟨rfl, ⟨by omega, h2, HD3.out.keep hK5 (Ne.symm ok.rb), HY3.out.keep hK5 (Ne.symm ok.ry), r + k, wrap64 (G.D (c + (k - 1))), -1, gu, by omega, ?_, hK5.row (Ne.symm ok.ru) HU3.out, fun j hj => ?_, HG.out.2⟩, hK5.row n1 HP3.out, hK4.trans (hK5.mono fun y h => Or.inl h)⟩
  · exact (heap_setCell_same _ G.R 6 _ _ _ (heap_setCell_same w3 G.R 5 _ _ _ HR3.out)).trans (by rw [show r + k + (pos - (c + k)) = x from by omega]; rfl)
  · rw [show r + k + j = r + (k + j) from by omega, HG.out.1 (k + j) (by omega), show c + (k + j) = c + k + j from by omega]


end Go.Proofs.Qxb6618769aFmt
