import Derived.Test.Qxb6618769aFmtFrame
namespace Go.Proofs.Qxb6618769aFmt
open Go.RowKit
set_option linter.unusedVariables false
set_option maxRecDepth 100000

theorem assert28 (x : Value) (w : World) : (Instr.typeAssert (.iface 34 x) 41 28 true).run Tryf.prog w = .ok (.tuple #[.pointer none, .bool false]) w := by kernel_rfl
attribute [local go_sem] assert28

set_option maxHeartbeats 1000000 in
theorem newReader (n : Nat) (da : Option Addr) (B : Nat) (D : Nat → Int) (size : Int) (SZ : Nat) (w : World) (hn : n ≤ 1048576) (hs : size ≤ 65536) (hSZ : SZ = (max size 16).toNat) (hD : DA w B da n D) (hB : B < w.heap.size) (h8 : 8 ≤ w.heap.size) :
    Calls Tryf.prog 8 #[.slice da n n, .int .i64 size] w fun e w' => ∃ G : Geo, e = .returned (.pointer (some ⟨G.R, 0, none⟩)) ∧ G.Ok ∧ G.Lo w.heap.size ∧ G.B = B ∧ G.n = n ∧ G.D = D ∧ G.SZ = SZ ∧ RI G w' 0 0 ∧ Below w.heap.size w w' := by
  have hmk := run_make_row' (P := Tryf.prog) 22 5 (.int .u8 0) 1 Tryf.underlying22 info5 rfl .i64 .i64 SZ (by omega) (by omega)
  have hmax : ((SZ : Nat) : Int) = max size 16 := by omega
  simp only [hmax] at hmk
  have hz1 : 16 ≤ SZ := by omega
  have hz2 : SZ ≤ 65536 := by omega
  have HD : Hid (DA w B da n D) := hD
  clear hSZ hmax hD
  go_enter Tryf.func8, Tryf.ntmps8
  go_wp2
  go_end0
  go_wp2
  go_ret
  obtain ⟨w1, hw1⟩ : ∃ w1, w1 = w.alloc (.cells #[.slice da n n, .int .i64 0, .int .i64 (-1)] 47) := ⟨_, rfl⟩
  obtain ⟨w2, hw2⟩ : ∃ w2, w2 = w1.alloc (.cells #[.slice (some ⟨w.heap.size + 1 + 1, 0, none⟩) SZ SZ, .iface 34 (.pointer (some ⟨w.heap.size, 0, none⟩)), .int .i64 0, .int .i64 0, .nilIface, .int .i64 (-1), .int .i64 (-1)] 44) := ⟨_, rfl⟩
  obtain ⟨w3, hw3⟩ : ∃ w3, w3 = w2.alloc (.cells (madeCells #[.int .u8 0] SZ) 5) := ⟨_, rfl⟩
  have hz1' : w1.heap.size = w.heap.size + 1 := by rw [hw1, Deep.nblk_alloc]
  have hz2' : w2.heap.size = w.heap.size + 1 + 1 := by rw [hw2, Deep.nblk_alloc, hz1']
  have k1 : Kp (fun _ => False) w w1 := by rw [hw1]; exact (Kp.refl _ _).alloc _
  have k2 : Kp (fun _ => False) w1 w2 := by rw [hw2]; exact (Kp.refl _ _).alloc _
  have k3 : Kp (fun _ => False) w2 w3 := by rw [hw3]; exact (Kp.refl _ _).alloc _
  have hY : w3.heap[w.heap.size]? = some (.cells #[.slice da n n, .int .i64 0, .int .i64 (-1)] 47 (0, 0)) := (k2.trans k3).heap id (by rw [hw1]; exact Deep.blk_alloc_new w _)
  have hR : w3.heap[w.heap.size + 1]? = some (.cells #[.slice (some ⟨w.heap.size + 1 + 1, 0, none⟩) SZ SZ, .iface 34 (.pointer (some ⟨w.heap.size, 0, none⟩)), .int .i64 0, .int .i64 0, .nilIface, .int .i64 (-1), .int .i64 (-1)] 44 (0, 0)) := k3.heap id (by rw [hw2, ← hz1']; exact Deep.blk_alloc_new w1 _)
  have hU : w3.rowIs (w.heap.size + 1 + 1) 5 SZ (fun _ => .int .u8 0) := by rw [hw3, ← hz2']; exact row_made .u8 5 w2 SZ
  have hb : Below w.heap.size w w3 := ((k1.trans k2).trans k3).below (fun _ h => h.elim) (Nat.le_refl _)
  refine ⟨⟨w.heap.size + 1, w.heap.size + 1 + 1, w.heap.size, B, SZ, n, da, D⟩, rfl, ⟨hn, hz1, hz2, ?_, ?_, ?_, ?_, ?_, ?_, ?_, ?_, ?_⟩, ⟨?_, ?_, ?_⟩, rfl, rfl, rfl, rfl, ?_, ?_⟩
  case refine_13 =>
    have hK := ((k1.trans k2).trans k3)
    have := (show RI ⟨w.heap.size + 1, w.heap.size + 1 + 1, w.heap.size, B, SZ, n, da, D⟩ w3 0 0 from
      ⟨Nat.le_refl _, Nat.zero_le _, HD.out.keep hK id, ⟨-1, hY⟩, 0, -1, -1, fun _ => .int .u8 0, Nat.zero_le _, hR, hU, fun j hj => by omega, fun j hj => ⟨0, rfl⟩⟩)
    rw [hw3, hw2, hw1] at this
    exact this
  case refine_14 =>
    rw [hw3, hw2, hw1] at hb
    exact hb
  all_goals (simp only []; omega)
end Go.Proofs.Qxb6618769aFmt
