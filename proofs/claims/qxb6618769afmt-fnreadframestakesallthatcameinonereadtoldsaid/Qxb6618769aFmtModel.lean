import Derived.Test.Qxb6618769aFmtAux
namespace Go.Proofs.Qxb6618769aFmt
open Go.RowKit
set_option linter.unusedVariables false
set_option maxRecDepth 100000

/-- The pieces of the row at ⟨B, 0⟩, as 'data[l:h]' cuts them. -/
def mcuts (D : Nat → Int) (B n : Nat) (k : Nat) : List Value := (List.range k).map fun i => .slice (some ⟨B, stp D 0 i, none⟩) (2 + bd D (stp D 0 i)) (n - stp D 0 i)
theorem mcuts_succ (D : Nat → Int) (B n k : Nat) : mcuts D B n (k + 1) = mcuts D B n k ++ [.slice (some ⟨B, stp D 0 k, none⟩) (2 + bd D (stp D 0 k)) (n - stp D 0 k)] := by
  simp [mcuts, List.range_succ]

set_option maxHeartbeats 2000000 in
theorem model_any (D : Nat → Int) (hB : ∀ j, 0 ≤ D j ∧ D j < 256) (B n : Nat) (da : Option Addr) (w : World) (hn : n ≤ 1048576) (hb : B < w.heap.size) (hD : DA w B da n D) :
    Calls Tryf.prog 7 #[.slice da n n] w fun e w' => ∃ m v, e = .returned (.tuple #[v, .int .i64 ((stp D 0 m : Nat) : Int)]) ∧ Cut D 0 n m ∧ w'.ownsRow w.heap.size 22 1 v m (mcuts D B n m) ∧ Below w.heap.size w w' := by
  have HD : Hid (DA w B da n D) := hD
  clear hD
  go_enter Tryf.func7, Tryf.ntmps7
  go_wp2
  go_loopw [4, 5, 6] (fun a t _ wr => ∃ k : Nat, (∀ i, i < k → stp D 0 (i + 1) ≤ n) ∧ stp D 0 k ≤ n ∧ t = .int .i64 ((stp D 0 k : Nat) : Int) ∧ wr.ownsRow w.heap.size 22 1 a k (mcuts D B n k) ∧ Below w.heap.size w wr) (fun _ t _ _ => n - (intOf t).toNat)
  case atStart => exact ⟨0, fun i h => by omega, by simp [stp], by simp [stp], World.ownsRow_nil _ _ _ _, Below.refl _ _⟩
  case round =>
    obtain ⟨k, hk1, hk2, rfl, hown, hbel⟩ := hrel
    have hge := stp_ge D 0 k
    obtain ⟨s, hs⟩ : ∃ s, s = stp D 0 k := ⟨_, rfl⟩
    have hsL : s ≤ n := by omega
    have HO : Hid (wr.ownsRow w.heap.size 22 1 u4 k (mcuts D B n k)) := hown
    have HS : Hid (s = stp D 0 k) := hs
    have HK1 : Hid (∀ i, i < k → stp D 0 (i + 1) ≤ n) := hk1
    have hk20 : k ≤ 1048576 := by omega
    rw [← hs]
    obtain ⟨q, hq⟩ : ∃ q, q = bd D s := ⟨_, rfl⟩
    have hn1 : stp D 0 (k + 1) = s + 2 + q := by show stp D 0 k + 2 + bd D (stp D 0 k) = _; rw [← hs, hq]
    have HN1 : Hid (stp D 0 (k + 1) = s + 2 + q) := hn1
    have hqm : q ≤ 65535 := by have := hB s; have := hB (s + 1); rw [hq]; unfold bd; omega
    have HQ : Hid (q = bd D s) := hq
    clear hown hs hk1 hk2 hn1 hq hge
    by_cases h2 : s + 2 ≤ n
    · have h2' : (2 : Int) ≤ (n : Int) - (s : Int) := by omega
      obtain ⟨hda, hcs⟩ := HD.out (by omega)
      subst hda
      have hns : ¬ n = s := by omega
      have c0 : wr.cell? ⟨B, s, none⟩ = some (.int .u8 (D s)) := (hbel.cell (by exact hb)).trans (hcs s (by omega))
      have c1 : wr.cell? ⟨B, s + 1, none⟩ = some (.int .u8 (D (s + 1))) := (hbel.cell (by exact hb)).trans (hcs (s + 1) (by omega))
      have hb0 := hB s
      have hb1 := hB (s + 1)
      have hqe : D s * 256 + D (s + 1) = (q : Int) := by rw [HQ.out]; unfold bd; omega
      clear hcs
      go_wp2
      go_quiet (fail)
      obtain ⟨w3, hw3⟩ : ∃ w3, w3 = wr.drewN nq := ⟨_, rfl⟩
      rw [← hw3]
      have hk3 : Below w.heap.size w w3 := by rw [hw3]; exact ⟨hbel.os, hbel.tape, hbel.output, hbel.size, hbel.block⟩
      have HO3 : Hid (w3.ownsRow w.heap.size 22 1 u4 k (mcuts D B n k)) := by show w3.ownsRow _ _ _ _ _ _; rw [hw3]; exact HO.out
      clear c0 c1 hw3 hqe hb0 hb1
      by_cases h3 : s + 2 + q ≤ n
      · have h3' : ¬ (n : Int) - (s : Int) - 2 < (q : Int) := by omega
        have h3t : ((s : Int) + 2 + (q : Int)).toNat = s + 2 + q := by omega
        have h3n : (s : Int) + 2 + (q : Int) ≤ (n : Int) := by omega
        go_upto_region 6 with fail
        iterate 28 go_step
        refine wpList_app rfl (.tmp 32) (.tmp 40) rfl u4 (.slice (some ⟨B, s, none⟩) (s + 2 + q - s) (n - s)) k w.heap.size (mcuts D B n k) w3 rfl rfl rfl HO3.out hk20 hk3.size ?_
        intro g cap w5 HO5 hk5 hg5 hat5
        have hbel5 : Below w.heap.size w w5 := ⟨hk5.os.trans hk3.os, hk5.tape.trans hk3.tape, hk5.output.trans hk3.output, Nat.le_trans hk3.size hk5.size, fun y hy => (hk5.block y (Nat.lt_of_lt_of_le hy hk3.size) (fun e => by have := own_base HO3.out y e; omega)).trans (hk3.block y hy)⟩
        clear hk5 HO3 hat5
        go_wp2
        go_roundw
        case rel =>
          refine ⟨k + 1, fun i hi => ?_, by rw [HN1.out]; omega, ?_, ?_, hbel5⟩
          · rcases Nat.lt_or_ge i k with h | h
            · exact HK1.out i h
            · obtain rfl : i = k := by omega
              rw [HN1.out]; omega
          · rw [HN1.out]; exact congrArg _ (by omega)
          · rw [mcuts_succ, ← HS.out, ← HQ.out, show 2 + q = s + 2 + q - s from by omega]; exact HO5.out
        case measure => simp [intOf]; omega
      · have h3' : (n : Int) - (s : Int) - 2 < (q : Int) := by omega
        go_wp2
        go_ret2
        refine ⟨k, u4, by rw [← HS.out]; rfl, ⟨HK1.out, by rw [HN1.out]; omega⟩, HO3.out, hk3⟩
    · have h2' : (n : Int) - (s : Int) < 2 := by omega
      go_wp2
      go_ret2
      refine ⟨k, u4, by rw [← HS.out]; rfl, ⟨HK1.out, by rw [HN1.out]; omega⟩, HO.out, hbel⟩
end Go.Proofs.Qxb6618769aFmt
