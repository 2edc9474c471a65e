import Derived.Test.Qxb6618769aFmtFrame
namespace Go.Proofs.Qxb6618769aFmt
open Go.Extern.Stop Go.Stop Go.Extern Go.RowKit
set_option linter.unusedVariables false
set_option maxRecDepth 100000

set_option maxHeartbeats 2000000 in
theorem readFrame_short (F : Interp) (G : Geo) (ok : G.Ok) (M : Nat) (hlo : G.Lo M) (c pos : Nat) (ae au : Addr) (su : ByteArray) (w : World) (hB : ∀ j, 0 ≤ G.D j ∧ G.D j < 256) (hI : RI G w c pos) (hS : Sen M ae au su w) (hF : F.answers w.tape) (hc : c ≤ G.n) (hw : G.n < c + 2)
    (nB : G.B < w.heap.size) (nM : M ≤ w.heap.size) :
    Calls Tryf.prog 16 #[.iface 28 (.pointer (some ⟨G.R, 0, none⟩))] w fun e w' => ∃ ev, e = .returned (.tuple #[.slice none 0 0, ev]) ∧ (ev = .iface 68 (.pointer (some ae)) ∧ c = G.n ∨ c < G.n ∧ ∃ N, ev = .iface 65 (.pointer (some ⟨N, 0, none⟩))) ∧ Kp (fun x => x = G.R ∨ x = G.U ∨ x = G.Y) w w' := by
  obtain ⟨l1, l2, l3⟩ := hI.lts
  have m8 := hS.m8
  have hnm := ok.nmax
  have HI : Hid (RI G w c pos) := hI
  have HS : Hid (Sen M ae au su w) := hS
  clear hI hS
  obtain ⟨N0, hN0⟩ : ∃ N0, N0 = w.heap.size := ⟨_, rfl⟩
  have hk1 : Kp (fun _ => False) w (w.alloc (.cells #[.int .u8 0, .int .u8 0] 54)) := (Kp.refl _ _).alloc _
  have HI1 : Hid (RI G (w.alloc (.cells #[.int .u8 0, .int .u8 0] 54)) c pos) := HI.out.keep hk1 id id id id
  have HS1 : Hid (Sen M ae au su (w.alloc (.cells #[.int .u8 0, .int .u8 0] 54))) := HS.out.keep hk1 (fun k h => h.elim)
  have HP1 : Hid ((w.alloc (.cells #[.int .u8 0, .int .u8 0] 54)).rowIs N0 54 2 (fun _ => .int .u8 0)) := by
    refine ⟨_, by rw [hN0]; exact Deep.blk_alloc_new w _, rfl, fun i hi => ?_⟩
    match i, hi with
    | 0, _ => rfl
    | 1, _ => rfl
  have HF : Hid (F.answers w.tape) := hF
  clear hF
  by_cases hcn : c = G.n
  · have heq := fun w => eqEOF ae w
    go_enter Tryf.func16, Tryf.ntmps16
    go_wp2_with (go_at_call 22; rw [← hN0]; refine (readFull G ok c pos N0 0 2 2 54 2 (fun _ => .int .u8 0) ae au _ (by omega) (by omega) HI1.out (by omega) HP1.out (by omega) (by omega) (by omega) (by omega) (by omega) (by omega) HS1.out.e0 HS1.out.e2).mono ?_; rintro e w2 ⟨hk2, hA⟩; obtain ⟨he, hI2⟩ := hA.2 hw; rw [if_pos hcn] at he; subst he; have hK2 := kp_drop (hk1.mono (fun k h => h.elim)) hk2 (by omega); have s0 := (HS.out.keep hK2 (fun k h => by have := hlo.r; have := hlo.u; have := hlo.y; omega)).e0; clear hA hI2 hk2 HI1 HS1 HP1)
    go_quiet (fail)
    go_wp2
    go_ret2
    exact ⟨_, rfl, Or.inl ⟨rfl, hcn⟩, hK2.drewN _⟩
  · have heq : True := trivial
    go_enter Tryf.func16, Tryf.ntmps16
    go_wp2_with (go_at_call 22; rw [← hN0]; refine (readFull G ok c pos N0 0 2 2 54 2 (fun _ => .int .u8 0) ae au _ (by omega) (by omega) HI1.out (by omega) HP1.out (by omega) (by omega) (by omega) (by omega) (by omega) (by omega) HS1.out.e0 HS1.out.e2).mono ?_; rintro e w2 ⟨hk2, hA⟩; obtain ⟨he, hI2⟩ := hA.2 hw; rw [if_neg hcn] at he; subst he; have hK2 := kp_drop (hk1.mono (fun k h => h.elim)) hk2 (by omega); have hS2 := (HS.out.keep hK2 (fun k h => by have := hlo.r; have := hlo.u; have := hlo.y; omega)); have s0 := hS2.e0; have sf := hS2.eqf; have HS2 : Hid (Sen M ae au su w2) := hS2; clear hS2 hA hI2 hk2 HI1 HS1 HP1)
    have hk3 : Kp (fun _ => False) w2 (w2.alloc (.cells #[.iface 68 (.pointer (some au))] 20)) := (Kp.refl _ _).alloc _
    have hv : (w2.alloc (.cells #[.iface 68 (.pointer (some au))] 20)).cell? ⟨w2.heap.size, 0, none⟩ = some (.iface 68 (.pointer (some au))) := by
      rw [cell_of_row _ _ _ _ _ _ (Deep.blk_alloc_new w2 _)]; rfl
    refine (errorf1 F au su 0 (w2.alloc (.cells #[.iface 68 (.pointer (some au))] 20)) (by rw [hk3.tape, hK2.tape]; exact HF.out) w2.heap.size hv (hk3.cell id HS2.out.tx)).mono ?_
    rintro e w3 ⟨hb3, N, rfl⟩
    go_wp2
    go_ret2
    refine ⟨_, rfl, Or.inr ⟨by omega, N, rfl⟩, hK2.trans ((hk3.mono fun k h => h.elim).trans (Kp.of_below hb3))⟩

theorem eqEOFt (a : Addr) (w : World) : (binOp .eql 37 (.iface 68 (.pointer (some a))) (.iface 68 (.pointer (some a)))).run Tryf.prog w = .ok (.bool true) w := eqEOF a w

set_option maxHeartbeats 2000000 in
theorem readFrame_torn (F : Interp) (G : Geo) (ok : G.Ok) (M : Nat) (hlo : G.Lo M) (c pos : Nat) (ae au : Addr) (su : ByteArray) (w : World) (hB : ∀ j, 0 ≤ G.D j ∧ G.D j < 256) (hI : RI G w c pos) (hS : Sen M ae au su w) (hF : F.answers w.tape) (hw1 : c + 2 ≤ G.n) (hw2 : G.n < c + 2 + bd G.D c)
    (nB : G.B < w.heap.size) (nM : M ≤ w.heap.size) :
    Calls Tryf.prog 16 #[.iface 28 (.pointer (some ⟨G.R, 0, none⟩))] w fun e w' => ∃ ev, e = .returned (.tuple #[.slice none 0 0, ev]) ∧ (ev = .iface 68 (.pointer (some ae)) ∧ c = G.n ∨ c < G.n ∧ ∃ N, ev = .iface 65 (.pointer (some ⟨N, 0, none⟩))) ∧ Kp (fun x => x = G.R ∨ x = G.U ∨ x = G.Y) w w' := by
  have hbm : bd G.D c ≤ 65535 := by have := hB c; have := hB (c + 1); unfold bd; omega
  obtain ⟨b, hb⟩ : ∃ b, b = bd G.D c := ⟨_, rfl⟩
  obtain ⟨l1, l2, l3⟩ := hI.lts
  have m8 := hS.m8
  have hnm := ok.nmax
  rw [← hb] at hw2 hbm
  have hmk := run_make_row' (P := Tryf.prog) 22 5 (.int .u8 0) 1 Tryf.underlying22 info5 rfl .i64 .i64 (2 + b) (by omega) (by omega)
  rw [show ((2 + b : Nat) : Int) = 2 + (b : Int) from by omega] at hmk
  have HI : Hid (RI G w c pos) := hI
  have HS : Hid (Sen M ae au su w) := hS
  have HB : Hid (b = bd G.D c) := hb
  clear hI hS hb
  have hwr1 : IntKind.i64.wrap (b : Int) = b := wrapid (by omega) (by omega)
  have hwr2 : IntKind.i64.wrap (2 + (b : Int)) = 2 + (b : Int) := wrapid (by omega) (by omega)
  obtain ⟨N0, hN0⟩ : ∃ N0, N0 = w.heap.size := ⟨_, rfl⟩
  have hk1 : Kp (fun _ => False) w (w.alloc (.cells #[.int .u8 0, .int .u8 0] 54)) := (Kp.refl _ _).alloc _
  have HI1 : Hid (RI G (w.alloc (.cells #[.int .u8 0, .int .u8 0] 54)) c pos) := HI.out.keep hk1 id id id id
  have HS1 : Hid (Sen M ae au su (w.alloc (.cells #[.int .u8 0, .int .u8 0] 54))) := HS.out.keep hk1 (fun k h => h.elim)
  have HP1 : Hid ((w.alloc (.cells #[.int .u8 0, .int .u8 0] 54)).rowIs N0 54 2 (fun _ => .int .u8 0)) := by
    refine ⟨_, by rw [hN0]; exact Deep.blk_alloc_new w _, rfl, fun i hi => ?_⟩
    match i, hi with
    | 0, _ => rfl
    | 1, _ => rfl
  have HF : Hid (F.answers w.tape) := hF
  clear hF
  go_enter Tryf.func16, Tryf.ntmps16
  go_wp2_with (go_at_call 22; rw [← hN0]; refine (readFull G ok c pos N0 0 2 2 54 2 (fun _ => .int .u8 0) ae au _ (by omega) (by omega) HI1.out (by omega) HP1.out (by omega) (by omega) (by omega) (by omega) (by omega) (by omega) HS1.out.e0 HS1.out.e2).mono ?_; rintro e w2 ⟨hk2, hA⟩; obtain ⟨rfl, p1, hI2, hP2, hF2⟩ := hA.1 hw1)
  have HI2 : Hid (RI G w2 (c + 2) p1) := hI2
  have HP2 : Hid (w2.rowIs w.heap.size 54 2 (over (fun _ => .int .u8 0) 0 2 (fun j => .int .u8 (G.D (c + j))))) := by show w2.rowIs _ _ _ _; rw [← hN0]; exact hP2
  have HF2 : Hid (Fp G c pos 2 p1) := hF2.elim (fun h => by omega) id
  have c0 : w2.cell? ⟨w.heap.size, 0, none⟩ = some (.int .u8 (G.D c)) := (HP2.out.cell (i := 0) (by omega)).trans (by rw [show over (fun _ => Value.int .u8 0) 0 2 (fun j => .int .u8 (G.D (c + j))) 0 = .int .u8 (G.D (c + 0)) from over_in (o := 0) (j := 0) (by omega)]; rfl)
  have c1 : w2.cell? ⟨w.heap.size, 0 + 1, none⟩ = some (.int .u8 (G.D (c + 1))) := (HP2.out.cell (i := 1) (by omega)).trans (by rw [show over (fun _ => Value.int .u8 0) 0 2 (fun j => .int .u8 (G.D (c + j))) 1 = .int .u8 (G.D (c + 1)) from over_in (o := 0) (j := 1) (by omega)])
  have hK2 : Kp (fun x => x = G.R ∨ x = G.U ∨ x = G.Y) w w2 := by
    have h := (hk1.mono (t := fun x => x = G.R ∨ x = G.U ∨ x = G.Y ∨ x = N0) (fun k h => h.elim)).trans hk2
    exact ⟨h.os, h.tape, h.output, h.size, fun k hk hn => h.block k hk (fun e => by rcases e with e | e | e | e; exact hn (.inl e); exact hn (.inr (.inl e)); exact hn (.inr (.inr e)); omega)⟩
  have HS2 : Hid (Sen M ae au su w2) := HS.out.keep hK2 (fun k h => by have := hlo.r; have := hlo.u; have := hlo.y; omega)
  have hz2 : w.heap.size < w2.heap.size := HP2.out.lt
  clear hI2 hP2 hF2 hA hk2 HI1 HS1 HP1 hk1
  go_region_held (fun _ => True) (trivial)
    ((go_at_call 24; refine (be16 w.heap.size 0 2 2 (G.D c) (G.D (c + 1)) w2.drew (by omega) (hB _) (hB _) c0 c1).mono ?_; rintro e w3 ⟨he, hb3⟩; obtain rfl : e = .returned (.int .u16 (b : Int)) := he.trans (by rw [HB.out]; rfl); clear he))
  obtain ⟨w4, hw4⟩ : ∃ w4, w4 = w3.alloc (.cells (madeCells #[.int .u8 0] (2 + b)) 5) := ⟨_, rfl⟩
  rw [← hw4]
  obtain ⟨N, hN⟩ : ∃ N, N = w3.heap.size := ⟨_, rfl⟩
  rw [← hN]
  have hk3 : Kp (fun _ => False) w2 w3 := ⟨hb3.os, hb3.tape, hb3.output, hb3.size, fun k hk _ => hb3.block k hk⟩
  have hk4 : Kp (fun _ => False) w2 w4 := by rw [hw4]; exact hk3.alloc _
  have HP4 : Hid (w4.rowIs N 5 (2 + b) (fun _ => .int .u8 0)) := by
    show w4.rowIs _ _ _ _
    rw [hw4, hN]
    exact row_made .u8 5 w3 (2 + b)
  have hzN : w2.heap.size ≤ N := by rw [hN]; exact hb3.size
  have HC0 : Hid (w4.cell? ⟨w.heap.size, 0, none⟩ = some (.int .u8 (G.D c)) ∧ w4.cell? ⟨w.heap.size, 0 + 1, none⟩ = some (.int .u8 (G.D (c + 1)))) := ⟨hk4.cell id c0, hk4.cell id c1⟩
  have HI4 : Hid (RI G w4 (c + 2) p1) := HI2.out.keep hk4 id id id id
  have HS4 : Hid (Sen M ae au su w4) := HS2.out.keep hk4 (fun k h => h.elim)
  have hK4 : Kp (fun x => x = G.R ∨ x = G.U ∨ x = G.Y) w w4 := hK2.trans (hk4.mono fun k h => h.elim)
  clear hw4 hN hk3 hk4 hb3 HI2 HS2 hK2 HP2 c0 c1
  go_upto_region 8 with fail
  iterate 7 go_step
  refine wpList_copy_fn rfl (.tmp 31) (.tmp 32) 22 22 rfl 5 Tryf.underlying22 size1 N 0 (2 + b) (2 + b) w.heap.size 0 2 2 2 5 (2 + b) (fun _ => .int .u8 0) (fun j => .int .u8 (G.D (c + j))) rfl rfl ?h1 HP4.out (by omega) ?h2 (fun j hj => rfl) ?_
  case h1 => exact (Nat.min_eq_left (by omega)).symm
  case h2 =>
    intro j hj
    match j, hj with
    | 0, _ => exact HC0.out.1
    | 1, _ => exact HC0.out.2
  intro w5 HP5 hk5 hz5
  have HI5 : Hid (RI G w5 (c + 2) p1) := HI4.out.keep hk5 (by omega) (by omega) (by omega) (by omega)
  have HS5 : Hid (Sen M ae au su w5) := HS4.out.keep hk5 (fun k h => by omega)
  have hK5 : Kp (fun x => x = G.R ∨ x = G.U ∨ x = G.Y ∨ x = N) w w5 := (hK4.mono fun k h => by omega).trans (hk5.mono fun k h => by omega)
  clear HI4 HS4 hK4 hk5 HC0 HP4 hz5
  have hb0 : ¬ b = 0 := by omega
  by_cases hcn : c + 2 = G.n
  · have heq := fun w => eqEOF ae w
    go_wp2_with (go_at_call 22; refine (readFull G ok (c + 2) p1 N 2 b b 5 (2 + b) _ ae au w5 (by omega) (by omega) HI5.out (by omega) HP5.out (by omega) (by omega) (by omega) (by omega) (by omega) (by omega) HS5.out.e0 HS5.out.e2).mono ?_; rintro e w6 ⟨hk6, hA⟩; obtain ⟨he, hI6⟩ := hA.2 (by omega); rw [if_pos hcn] at he; subst he; have hK6 := kp_drop hK5 hk6 (by omega); have hS6 := (HS.out.keep hK6 (fun k h => by have := hlo.r; have := hlo.u; have := hlo.y; omega)); have s0 := hS6.e0; have s2 := hS6.e2; have HS6 : Hid (Sen M ae au su w6) := hS6; clear hS6 hA hI6 hk6 HI5 HS5)
    have hk3 : Kp (fun _ => False) w6 (w6.alloc (.cells #[.iface 3 (.int .i64 (2 + (b : Int) - 2)), .iface 68 (.pointer (some au))] 20)) := (Kp.refl _ _).alloc _
    have hv0 : (w6.alloc (.cells #[.iface 3 (.int .i64 (2 + (b : Int) - 2)), .iface 68 (.pointer (some au))] 20)).cell? ⟨w6.heap.size, 0, none⟩ = some (.iface 3 (.int .i64 (2 + (b : Int) - 2))) := by
      rw [cell_of_row _ _ _ _ _ _ (Deep.blk_alloc_new w6 _)]; rfl
    have hv1 : (w6.alloc (.cells #[.iface 3 (.int .i64 (2 + (b : Int) - 2)), .iface 68 (.pointer (some au))] 20)).cell? ⟨w6.heap.size, 1, none⟩ = some (.iface 68 (.pointer (some au))) := by
      rw [cell_of_row _ _ _ _ _ _ (Deep.blk_alloc_new w6 _)]; rfl
    refine (errorf2 F au su _ (w6.alloc (.cells #[.iface 3 (.int .i64 (2 + (b : Int) - 2)), .iface 68 (.pointer (some au))] 20)) (by rw [hk3.tape, hK6.tape]; exact HF.out) w6.heap.size hv0 hv1 (hk3.cell id HS6.out.tx)).mono ?_
    rintro e w7 ⟨hb3, N, rfl⟩
    go_wp2
    go_ret2
    refine ⟨_, rfl, Or.inr ⟨by omega, N, rfl⟩, hK6.trans ((hk3.mono fun k h => h.elim).trans (Kp.of_below hb3))⟩
  · go_wp2_with (go_at_call 22; refine (readFull G ok (c + 2) p1 N 2 b b 5 (2 + b) _ ae au w5 (by omega) (by omega) HI5.out (by omega) HP5.out (by omega) (by omega) (by omega) (by omega) (by omega) (by omega) HS5.out.e0 HS5.out.e2).mono ?_; rintro e w6 ⟨hk6, hA⟩; obtain ⟨he, hI6⟩ := hA.2 (by omega); rw [if_neg hcn] at he; subst he; have hK6 := kp_drop hK5 hk6 (by omega); have hS6 := (HS.out.keep hK6 (fun k h => by have := hlo.r; have := hlo.u; have := hlo.y; omega)); have s0 := hS6.e0; have sf := hS6.eqf; have HS6 : Hid (Sen M ae au su w6) := hS6; clear hS6 hA hI6 hk6 HI5 HS5)
    have hk3 : Kp (fun _ => False) w6 (w6.alloc (.cells #[.iface 3 (.int .i64 (2 + (b : Int) - 2)), .iface 68 (.pointer (some au))] 20)) := (Kp.refl _ _).alloc _
    have hv0 : (w6.alloc (.cells #[.iface 3 (.int .i64 (2 + (b : Int) - 2)), .iface 68 (.pointer (some au))] 20)).cell? ⟨w6.heap.size, 0, none⟩ = some (.iface 3 (.int .i64 (2 + (b : Int) - 2))) := by
      rw [cell_of_row _ _ _ _ _ _ (Deep.blk_alloc_new w6 _)]; rfl
    have hv1 : (w6.alloc (.cells #[.iface 3 (.int .i64 (2 + (b : Int) - 2)), .iface 68 (.pointer (some au))] 20)).cell? ⟨w6.heap.size, 1, none⟩ = some (.iface 68 (.pointer (some au))) := by
      rw [cell_of_row _ _ _ _ _ _ (Deep.blk_alloc_new w6 _)]; rfl
    refine (errorf2 F au su _ (w6.alloc (.cells #[.iface 3 (.int .i64 (2 + (b : Int) - 2)), .iface 68 (.pointer (some au))] 20)) (by rw [hk3.tape, hK6.tape]; exact HF.out) w6.heap.size hv0 hv1 (hk3.cell id HS6.out.tx)).mono ?_
    rintro e w7 ⟨hb3, N, rfl⟩
    go_wp2
    go_ret2
    refine ⟨_, rfl, Or.inr ⟨by omega, N, rfl⟩, hK6.trans ((hk3.mono fun k h => h.elim).trans (Kp.of_below hb3))⟩
end Go.Proofs.Qxb6618769aFmt
