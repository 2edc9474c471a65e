import Derived.Test.Qxb6618769aFmtFull
import Derived.Test.Qxb6618769aFmtShelf
import Derived.Deep.Cut
import Derived.Deep.CutRange
namespace Go.Proofs.Qxb6618769aFmt
open Go.Extern.Stop Go.Stop Go.Extern Go.RowKit
set_option linter.unusedVariables false
set_option maxRecDepth 100000

set_option maxHeartbeats 1000000 in
theorem readFull (G : Geo) (ok : G.Ok) (c pos pb po L pc t K : Nat) (g : Nat → Value) (ae au : Addr) (w : World) (hLm : L ≤ 1048576) (hpc : L ≤ pc) (hI : RI G w c pos) (hcn : c ≤ G.n)
    (hP : w.rowIs pb t K g) (hfit : po + L ≤ K) (n1 : pb ≠ G.R) (n2 : pb ≠ G.U) (n3 : pb ≠ G.Y) (n4 : pb ≠ G.B) (n5 : 8 ≤ pb)
    (hE : w.cell? ⟨0, 0, none⟩ = some (.iface 68 (.pointer (some ae)))) (hE2 : w.cell? ⟨2, 0, none⟩ = some (.iface 68 (.pointer (some au)))) :
    Calls Tryf.prog 22 #[.iface 28 (.pointer (some ⟨G.R, 0, none⟩)), .slice (some ⟨pb, po, none⟩) L pc] w fun e w' => Kp (fun x => x = G.R ∨ x = G.U ∨ x = G.Y ∨ x = pb) w w' ∧ AtPost G c pos pb po L t K g ae au e w' := by
  have H := atLeast G ok c pos pb po L pc t K g ae au w hLm hpc hI hcn hP hfit n1 n2 n3 n4 n5 hE hE2
  clear hI hP hE hE2
  by_cases hcl : c + L ≤ G.n
  · have H1 : Calls Tryf.prog 27 #[.iface 28 (.pointer (some ⟨G.R, 0, none⟩)), .slice (some ⟨pb, po, none⟩) L pc, .int .i64 L] w fun e w' => e = .returned (.tuple #[.int .i64 (L : Int), .nilIface]) ∧ Kp (fun x => x = G.R ∨ x = G.U ∨ x = G.Y ∨ x = pb) w w' ∧ AtPost G c pos pb po L t K g ae au e w' :=
      H.mono fun e w' h => ⟨(h.2.1 hcl).1, h⟩
    clear H
    go_enter Tryf.func22, Tryf.ntmps22
    go_wp2_with (go_at_call 27; refine H1.mono ?_; rintro e w' ⟨rfl, hk, hA⟩)
    go_ret2
    exact ⟨hk, hA⟩
  · have H1 : Calls Tryf.prog 27 #[.iface 28 (.pointer (some ⟨G.R, 0, none⟩)), .slice (some ⟨pb, po, none⟩) L pc, .int .i64 L] w fun e w' => e = .returned (.tuple #[.int .i64 ((G.n - c : Nat) : Int), .iface 68 (.pointer (some (if c = G.n then ae else au)))]) ∧ Kp (fun x => x = G.R ∨ x = G.U ∨ x = G.Y ∨ x = pb) w w' ∧ AtPost G c pos pb po L t K g ae au e w' :=
      H.mono fun e w' h => ⟨(h.2.2 (by omega)).1, h⟩
    clear H
    obtain ⟨a, ha⟩ : ∃ a, a = if c = G.n then ae else au := ⟨_, rfl⟩
    rw [← ha] at H1
    clear ha
    go_enter Tryf.func22, Tryf.ntmps22
    go_wp2_with (go_at_call 27; refine H1.mono ?_; rintro e w' ⟨rfl, hk, hA⟩)
    go_ret2
    exact ⟨hk, hA⟩

/-- The listed variables that the road reads: io.EOF, io.ErrUnexpectedEOF, their blocks below M. -/
structure Sen (M : Nat) (ae au : Addr) (su : ByteArray) (w : World) : Prop where
  e0 : w.cell? ⟨0, 0, none⟩ = some (.iface 68 (.pointer (some ae)))
  e2 : w.cell? ⟨2, 0, none⟩ = some (.iface 68 (.pointer (some au)))
  ne : ae ≠ au
  ba : ∃ ca ta, w.heap[ae.block]? = some (.cells ca ta (0, 0))
  bu : ∃ ca ta, w.heap[au.block]? = some (.cells ca ta (0, 0))
  tx : w.cell? au = some (.string su)
  m8 : 8 ≤ M
  la : ae.block < M
  lu : au.block < M
theorem Sen.keep {M : Nat} {ae au : Addr} {su : ByteArray} {s : Nat → Prop} {w w' : World} (h : Sen M ae au su w) (hk : Kp s w w') (hs : ∀ k, s k → M ≤ k) : Sen M ae au su w' := by
  have hm := h.m8
  have hl := h.la
  have hl2 := h.lu
  refine ⟨hk.cell (fun e => by have := hs _ e; simp at this; omega) h.e0, hk.cell (fun e => by have := hs _ e; simp at this; omega) h.e2, h.ne, ?_, ?_, hk.cell (fun e => by have := hs _ e; omega) h.tx, h.m8, h.la, h.lu⟩
  · obtain ⟨a, b, c⟩ := h.ba; exact ⟨a, b, hk.heap (fun e => by have := hs _ e; omega) c⟩
  · obtain ⟨a, b, c⟩ := h.bu; exact ⟨a, b, hk.heap (fun e => by have := hs _ e; omega) c⟩
theorem Sen.eqf {M : Nat} {ae au : Addr} {su : ByteArray} {w : World} (h : Sen M ae au su w) : (binOp .eql 37 (.iface 68 (.pointer (some au))) (.iface 68 (.pointer (some ae)))).run Tryf.prog w = .ok (.bool false) w := by
  obtain ⟨a, b, c⟩ := h.ba
  obtain ⟨a', b', c'⟩ := h.bu
  exact run_eql_iface_ptr_other w Tryf.underlying37 Tryf.underlying68 (i := Tryf.t68) (by kernel_rfl) (by kernel_rfl) (j := Tryf.t70) (by kernel_rfl) (by decide) (Ne.symm h.ne) c' c

/-- The geometry lies at or above M. -/
structure Geo.Lo (G : Geo) (M : Nat) : Prop where
  r : M ≤ G.R
  u : M ≤ G.U
  y : M ≤ G.Y
/-- The number of octets that the length indicator at c counts. -/
def bd (D : Nat → Int) (c : Nat) : Nat := (D c * 256 + D (c + 1)).toNat
/-- A whole message stands at c. -/
def whole (G : Geo) (c : Nat) : Prop := c + 2 ≤ G.n ∧ c + 2 + bd G.D c ≤ G.n

theorem kp_drop {G : Geo} {N : Nat} {w a b : World} (h : Kp (fun x => x = G.R ∨ x = G.U ∨ x = G.Y ∨ x = N) w a) (k : Kp (fun x => x = G.R ∨ x = G.U ∨ x = G.Y ∨ x = N) a b) (hN : w.heap.size ≤ N) : Kp (fun x => x = G.R ∨ x = G.U ∨ x = G.Y) w b := by
  have h := h.trans k
  exact ⟨h.os, h.tape, h.output, h.size, fun k hk hn => h.block k hk (fun e => by rcases e with e | e | e | e; exact hn (.inl e); exact hn (.inr (.inl e)); exact hn (.inr (.inr e)); omega)⟩
theorem wrapid {x : Int} (h1 : 0 ≤ x) (h2 : x ≤ 1048578) : IntKind.i64.wrap x = x := by
  simp [IntKind.wrap, IntKind.bits, IntKind.signed]
  omega
theorem row_made (K : IntKind) (e : TypeId) (w : World) (n : Nat) : (w.alloc (.cells (madeCells #[.int K 0] n) e)).rowIs w.heap.size e n (fun _ => .int K 0) :=
  World.rowIs_made w (.int K 0) n e
theorem info5 : (Tryf.prog.info? 5).map (fun i => (i.zero, i.size, i.bytes)) = some (some (.int .u8 0), 1, 1) := by kernel_rfl

/-- 'copy(dst, src)' as one step of a region that does not draw. -/
theorem wpList_copy_fn {P : Program} {ops : Array Oper} {rest : List Oper} {op : Oper} {a : Act} {w : World} {Q : Exit → Act → World → Prop} (hgd : op.guard = none) (d s : Operand) (dT sT : TypeId)
    (ho : op.op = .call { callee := .builtin .copy, args := #[d, s], argTypes := #[dT, sT] }) (elem : TypeId) (hu : P.underlying dT = some (.slice elem)) (hsz : (P.info? elem).map (·.size) = some 1)
    (b o dLen dCap sb so sLen sCap k t n : Nat) (g h : Nat → Value) (hd : a.eval d = .slice (some ⟨b, o, none⟩) dLen dCap) (hs : a.eval s = .slice (some ⟨sb, so, none⟩) sLen sCap)
    (hk : k = Nat.min sLen dLen) (hrow : w.rowIs b t n g) (hfit : o + k ≤ n) (hsrc : ∀ j, j < k → w.cell? ⟨sb, so + j, none⟩ = some (h j)) (h1 : ∀ j, j < k → (h j).oneCell' = true)
    (hK : ∀ w', Hid (w'.rowIs b t n (over g o k h)) → Kp (fun x => x = b) w w' → w'.heap.size = w.heap.size → wpList P ops Q rest (a.put op.dst (goInt k)) w') :
    wpList P ops Q (op :: rest) a w := by
  have hw : Region.wanted op (yielded ops a.tmps) = true := by simp [Region.wanted, hgd]
  have H := step_copy_fn (P := P) (ops := ops) (K := wpList P ops Q rest) (Q := Q) (E := True) hgd d s dT sT ho elem hu hsz b o dLen dCap sb so sLen sCap k t n g h hd hs hk hrow hfit hsrc h1 hK
  rw [if_pos hw] at H
  unfold wpList
  rw [if_pos hw]
  exact .inl H

theorem RI.keep {G : Geo} {c pos : Nat} {s : Nat → Prop} {w w' : World} (h : RI G w c pos) (hk : Kp s w w') (h1 : ¬ s G.R) (h2 : ¬ s G.U) (h3 : ¬ s G.Y) (h4 : ¬ s G.B) : RI G w' c pos := by
  obtain ⟨a1, a2, hD, hY, r, lb, lr, gu, hr, hR, hU, hg, hby⟩ := h
  exact ⟨a1, a2, hD.keep hk h4, hY.keep hk h3, r, lb, lr, gu, hr, hk.heap h1 hR, hk.row h2 hU, hg, hby⟩
theorem RI.lts {G : Geo} {c pos : Nat} {w : World} (h : RI G w c pos) : G.R < w.heap.size ∧ G.U < w.heap.size ∧ G.Y < w.heap.size := by
  obtain ⟨a1, a2, hD, hY, r, lb, lr, gu, hr, hR, hU, hg, hby⟩ := h
  obtain ⟨pr, hY⟩ := hY
  exact ⟨lt_of_block hR, hU.lt, lt_of_block hY⟩

set_option maxHeartbeats 2000000 in
theorem readFrame_whole (F : Interp) (G : Geo) (ok : G.Ok) (M : Nat) (hlo : G.Lo M) (c pos : Nat) (ae au : Addr) (su : ByteArray) (w : World) (hB : ∀ j, 0 ≤ G.D j ∧ G.D j < 256) (hI : RI G w c pos) (hS : Sen M ae au su w) (hw : whole G c)
    (nB : G.B < w.heap.size) (nM : M ≤ w.heap.size) :
    Calls Tryf.prog 16 #[.iface 28 (.pointer (some ⟨G.R, 0, none⟩))] w fun e w' => ∃ N p, e = .returned (.tuple #[.slice (some ⟨N, 0, none⟩) (2 + bd G.D c) (2 + bd G.D c), .nilIface]) ∧ w.heap.size ≤ N ∧ w'.rowIs N 5 (2 + bd G.D c) (fun j => .int .u8 (G.D (c + j))) ∧
      RI G w' (c + 2 + bd G.D c) p ∧ Kp (fun x => x = G.R ∨ x = G.U ∨ x = G.Y) w w' ∧ (pos = G.n → p = G.n) ∧ (pos = c → G.n - c ≤ G.SZ → p = G.n) := by
  obtain ⟨b, hb⟩ : ∃ b, b = bd G.D c := ⟨_, rfl⟩
  obtain ⟨hw1, hw2⟩ := hw
  obtain ⟨l1, l2, l3⟩ := hI.lts
  have m8 := hS.m8
  have hnm := ok.nmax
  rw [← hb] at hw2 ⊢
  have hmk := run_make_row' (P := Tryf.prog) 22 5 (.int .u8 0) 1 Tryf.underlying22 info5 rfl .i64 .i64 (2 + b) (by omega) (by omega)
  rw [show ((2 + b : Nat) : Int) = 2 + (b : Int) from by omega] at hmk
  have HI : Hid (RI G w c pos) := hI
  have HS : Hid (Sen M ae au su w) := hS
  have HB : Hid (b = bd G.D c) := hb
  clear hI hS hb
  have hwr1 : IntKind.i64.wrap (b : Int) = b := wrapid (by omega) (by omega)
  have hwr2 : IntKind.i64.wrap (2 + (b : Int)) = 2 + (b : Int) := wrapid (by omega) (by omega)
  obtain ⟨N0, hN0⟩ : ∃ N0, N0 = w.heap.size := ⟨_, rfl⟩
  have hk1 : Kp (fun _ => False) w (w.alloc (.cells #[.int .u8 0, .int .u8 0] 54)) := (Kp.refl _ _).alloc _
  have HI1 : Hid (RI G (w.alloc (.cells #[.int .u8 0, .int .u8 0] 54)) c pos) := HI.out.keep hk1 id id id id
  have HS1 : Hid (Sen M ae au su (w.alloc (.cells #[.int .u8 0, .int .u8 0] 54))) := HS.out.keep hk1 (fun k h => h.elim)
  have HP1 : Hid ((w.alloc (.cells #[.int .u8 0, .int .u8 0] 54)).rowIs N0 54 2 (fun _ => .int .u8 0)) := by
    refine ⟨_, by rw [hN0]; exact Deep.blk_alloc_new w _, rfl, fun i hi => ?_⟩
    match i, hi with
    | 0, _ => rfl
    | 1, _ => rfl
  go_enter Tryf.func16, Tryf.ntmps16
  go_wp2_with (go_at_call 22; rw [← hN0]; refine (readFull G ok c pos N0 0 2 2 54 2 (fun _ => .int .u8 0) ae au _ (by omega) (by omega) HI1.out (by omega) HP1.out (by omega) (by omega) (by omega) (by omega) (by omega) (by omega) HS1.out.e0 HS1.out.e2).mono ?_; rintro e w2 ⟨hk2, hA⟩; obtain ⟨rfl, p1, hI2, hP2, hF2⟩ := hA.1 hw1)
  have HI2 : Hid (RI G w2 (c + 2) p1) := hI2
  have HP2 : Hid (w2.rowIs w.heap.size 54 2 (over (fun _ => .int .u8 0) 0 2 (fun j => .int .u8 (G.D (c + j))))) := by show w2.rowIs _ _ _ _; rw [← hN0]; exact hP2
  have HF2 : Hid (Fp G c pos 2 p1) := hF2.elim (fun h => by omega) id
  have c0 : w2.cell? ⟨w.heap.size, 0, none⟩ = some (.int .u8 (G.D c)) := (HP2.out.cell (i := 0) (by omega)).trans (by rw [show over (fun _ => Value.int .u8 0) 0 2 (fun j => .int .u8 (G.D (c + j))) 0 = .int .u8 (G.D (c + 0)) from over_in (o := 0) (j := 0) (by omega)]; rfl)
  have c1 : w2.cell? ⟨w.heap.size, 0 + 1, none⟩ = some (.int .u8 (G.D (c + 1))) := (HP2.out.cell (i := 1) (by omega)).trans (by rw [show over (fun _ => Value.int .u8 0) 0 2 (fun j => .int .u8 (G.D (c + j))) 1 = .int .u8 (G.D (c + 1)) from over_in (o := 0) (j := 1) (by omega)])
  have hK2 : Kp (fun x => x = G.R ∨ x = G.U ∨ x = G.Y) w w2 := by
    have h := (hk1.mono (t := fun x => x = G.R ∨ x = G.U ∨ x = G.Y ∨ x = N0) (fun k h => h.elim)).trans hk2
    exact ⟨h.os, h.tape, h.output, h.size, fun k hk hn => h.block k hk (fun e => by rcases e with e | e | e | e; exact hn (.inl e); exact hn (.inr (.inl e)); exact hn (.inr (.inr e)); omega)⟩
  have HS2 : Hid (Sen M ae au su w2) := HS.out.keep hK2 (fun k h => by have := hlo.r; have := hlo.u; have := hlo.y; omega)
  have hz2 : w.heap.size < w2.heap.size := HP2.out.lt
  clear hI2 hP2 hF2 hA hk2 HI1 HS1 HP1 hk1
  go_region_held (fun _ => True) (trivial)
    ((go_at_call 24; refine (be16 w.heap.size 0 2 2 (G.D c) (G.D (c + 1)) w2.drew (by omega) (hB _) (hB _) c0 c1).mono ?_; rintro e w3 ⟨he, hb3⟩; obtain rfl : e = .returned (.int .u16 (b : Int)) := he.trans (by rw [HB.out]; rfl); clear he))
  obtain ⟨w4, hw4⟩ : ∃ w4, w4 = w3.alloc (.cells (madeCells #[.int .u8 0] (2 + b)) 5) := ⟨_, rfl⟩
  rw [← hw4]
  obtain ⟨N, hN⟩ : ∃ N, N = w3.heap.size := ⟨_, rfl⟩
  rw [← hN]
  have hk3 : Kp (fun _ => False) w2 w3 := ⟨hb3.os, hb3.tape, hb3.output, hb3.size, fun k hk _ => hb3.block k hk⟩
  have hk4 : Kp (fun _ => False) w2 w4 := by rw [hw4]; exact hk3.alloc _
  have HP4 : Hid (w4.rowIs N 5 (2 + b) (fun _ => .int .u8 0)) := by
    show w4.rowIs _ _ _ _
    rw [hw4, hN]
    exact row_made .u8 5 w3 (2 + b)
  have hzN : w2.heap.size ≤ N := by rw [hN]; exact hb3.size
  have HC0 : Hid (w4.cell? ⟨w.heap.size, 0, none⟩ = some (.int .u8 (G.D c)) ∧ w4.cell? ⟨w.heap.size, 0 + 1, none⟩ = some (.int .u8 (G.D (c + 1)))) := ⟨hk4.cell id c0, hk4.cell id c1⟩
  have HI4 : Hid (RI G w4 (c + 2) p1) := HI2.out.keep hk4 id id id id
  have HS4 : Hid (Sen M ae au su w4) := HS2.out.keep hk4 (fun k h => h.elim)
  have hK4 : Kp (fun x => x = G.R ∨ x = G.U ∨ x = G.Y) w w4 := hK2.trans (hk4.mono fun k h => h.elim)
  clear hw4 hN hk3 hk4 hb3 HI2 HS2 hK2 HP2 c0 c1
  go_upto_region 8 with fail
  iterate 7 go_step
  refine wpList_copy_fn rfl (.tmp 31) (.tmp 32) 22 22 rfl 5 Tryf.underlying22 size1 N 0 (2 + b) (2 + b) w.heap.size 0 2 2 2 5 (2 + b) (fun _ => .int .u8 0) (fun j => .int .u8 (G.D (c + j))) rfl rfl ?h1 HP4.out (by omega) ?h2 (fun j hj => rfl) ?_
  case h1 => exact (Nat.min_eq_left (by omega)).symm
  case h2 =>
    intro j hj
    match j, hj with
    | 0, _ => exact HC0.out.1
    | 1, _ => exact HC0.out.2
  intro w5 HP5 hk5 hz5
  have HI5 : Hid (RI G w5 (c + 2) p1) := HI4.out.keep hk5 (by omega) (by omega) (by omega) (by omega)
  have HS5 : Hid (Sen M ae au su w5) := HS4.out.keep hk5 (fun k h => by omega)
  have hK5 : Kp (fun x => x = G.R ∨ x = G.U ∨ x = G.Y ∨ x = N) w w5 := (hK4.mono fun k h => by omega).trans (hk5.mono fun k h => by omega)
  clear HI4 HS4 hK4 hk5 HC0 HP4 hz5
  by_cases hb0 : b = 0
  · subst hb0
    go_wp2_with (go_at_call 22; refine (readFull G ok (c + 2) p1 N 0 0 0 5 (2 + 0) _ ae au w5 (by omega) (by omega) HI5.out (by omega) HP5.out (by omega) (by omega) (by omega) (by omega) (by omega) (by omega) HS5.out.e0 HS5.out.e2).mono ?_; rintro e w6 ⟨hk6, hA⟩; obtain ⟨rfl, p2, hI6, hP6, hF6⟩ := hA.1 (by omega))
    go_ret2
    refine ⟨N, p2, rfl, by omega, hP6.congr (fun j hj => ?_), hI6, ?_, ?_, ?_⟩
    · rw [over_zero]
      have := over_in (g := fun _ => Value.int .u8 0) (o := 0) (h := fun j => Value.int .u8 (G.D (c + j))) (j := j) (k := 2) (by omega)
      rwa [Nat.zero_add] at this
    · exact kp_drop hK5 hk6 (by omega)
    · intro h
      have h1 := HF2.out.1 h
      exact hF6.elim (fun e => e.2.trans h1) (fun e => e.1 h1)
    · intro h h'
      have h1 := HF2.out.2 h h' (by have := ok.sz16; omega)
      exact hF6.elim (fun e => e.2.trans h1) (fun e => e.1 h1)
  · go_wp2_with (go_at_call 22; refine (readFull G ok (c + 2) p1 N 2 b b 5 (2 + b) _ ae au w5 (by omega) (by omega) HI5.out (by omega) HP5.out (by omega) (by omega) (by omega) (by omega) (by omega) (by omega) HS5.out.e0 HS5.out.e2).mono ?_; rintro e w6 ⟨hk6, hA⟩; obtain ⟨rfl, p2, hI6, hP6, hF6⟩ := hA.1 (by omega))
    go_ret2
    refine ⟨N, p2, rfl, by omega, hP6.congr (fun j hj => ?_), hI6, ?_, ?_, ?_⟩
    · have h1 := over_over (g := fun _ => Value.int .u8 0) (h := fun j => Value.int .u8 (G.D (c + j))) (o := 0) (i := 2) (k := b) (h2 := fun j => .int .u8 (G.D (c + 2 + j))) (fun j _ => by show Value.int .u8 _ = Value.int .u8 _; rw [Nat.add_assoc]) j
      rw [Nat.zero_add] at h1
      rw [h1]
      have := over_in (g := fun _ => Value.int .u8 0) (o := 0) (h := fun j => Value.int .u8 (G.D (c + j))) (j := j) (k := 2 + b) (by omega)
      rwa [Nat.zero_add] at this
    · exact kp_drop hK5 hk6 (by omega)
    · intro h
      have h1 := HF2.out.1 h
      exact hF6.elim (fun e => e.2.trans h1) (fun e => e.1 h1)
    · intro h h'
      have h1 := HF2.out.2 h h' (by have := ok.sz16; omega)
      exact hF6.elim (fun e => e.2.trans h1) (fun e => e.1 h1)
end Go.Proofs.Qxb6618769aFmt
