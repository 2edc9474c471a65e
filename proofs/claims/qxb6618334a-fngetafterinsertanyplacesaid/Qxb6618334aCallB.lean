import Derived.Test.Qxb6618334aCallA
namespace Go.Proofs.Qxb6618334a
open Go.RowKit
set_option linter.unusedVariables false

/-- A message lies at block jb: its raw bytes are the r cells at the head of block rb; it has n attributes. -/
def PM (w : World) (jb rb r n : Nat) (ty fo fl : Nat → Int) : Prop :=
  w.cell? ⟨jb, 0, none⟩ = some (.slice (some ⟨rb, 0, none⟩) r r) ∧ ∃ a c, w.cell? ⟨jb, 1, none⟩ = some (.slice a n c) ∧
    (0 < n → ∃ g, a = some ⟨g, 0, none⟩ ∧ ∀ j, j < n → w.cell? ⟨g, j * 3, none⟩ = some (.int .u16 (ty j)) ∧ w.cell? ⟨g, j * 3 + 1, none⟩ = some (.int .i64 (fo j)) ∧ w.cell? ⟨g, j * 3 + 2, none⟩ = some (.int .i64 (fl j)))
theorem PM.mono {w w' : World} {jb rb r n : Nat} {ty fo fl : Nat → Int} (h : PM w jb rb r n ty fo fl) (hb : Below w.heap.size w w') : PM w' jb rb r n ty fo fl := by
  obtain ⟨h1, a, c, h2, h3⟩ := h
  refine ⟨cell_later hb h1, a, c, cell_later hb h2, fun hn => ?_⟩
  obtain ⟨g, ha, hc⟩ := h3 hn
  exact ⟨g, ha, fun j hj => ⟨cell_later hb (hc j hj).1, cell_later hb (hc j hj).2.1, cell_later hb (hc j hj).2.2⟩⟩

set_option maxHeartbeats 400000 in
theorem find_no (jb rb r n : Nat) (ty fo fl : Nat → Int) (t : Int) (w : World) (hn : n ≤ 65537) (h : PM w jb rb r n ty fo fl) (hlo : ∀ q, q < n → ty q ≠ t) :
    Calls Try.prog 12 #[.pointer (some ⟨jb, 0, none⟩), .int .u16 t] w fun e w' => e = .returned (.tuple #[.agg #[.int .u16 0, .int .i64 0, .int .i64 0], .bool false]) ∧ Below w.heap.size w w' := by
  obtain ⟨_, a, c, hcm, hat⟩ := h
  have hjb : jb < w.heap.size := World.block_lt_of_cell? _ _ hcm
  by_cases hn0 : n = 0
  · subst hn0
    go_enter Try.func12, Try.ntmps12
    go_wp2
    refine wp_loop_rounds 1 ?_
    rw [rounds_succ]
    go_wp2
    exact bodyPost_ret (v := .tuple #[.agg #[.int .u16 0, .int .i64 0, .int .i64 0], .bool false]) (by simp [results, Try.results12, go_sem]) rfl ⟨rfl, (Below.refl _ _).alloc (Nat.le_refl _) _⟩
  obtain ⟨g, rfl, hc⟩ := hat (by omega)
  have HL : Hid (∀ q, q < n → ty q ≠ t) := hlo
  clear hlo hat
  go_enter Try.func12, Try.ntmps12
  go_wp2
  go_loopw [13] (fun i wr => ∃ k : Nat, k ≤ n ∧ i = .int .i64 k ∧ wr.heap[w.heap.size]? = some (.cells #[.int .u16 0, .int .i64 0, .int .i64 0] 41 (0, 0)) ∧ Below w.heap.size w wr) (fun i _ => n - (intOf i).toNat)
  case atStart => exact ⟨0, Nat.zero_le _, rfl, Deep.blk_alloc_new _ _, (Below.refl _ _).alloc (Nat.le_refl _) _⟩
  case round =>
    obtain ⟨k, hk, rfl, hblk, hbel⟩ := hrel
    have hz := lt_of_block hblk
    have HB : Hid (wr.heap[w.heap.size]? = some (.cells #[.int .u16 0, .int .i64 0, .int .i64 0] 41 (0, 0))) := hblk
    clear hblk
    by_cases hlt : k < n
    · obtain ⟨q0, q1, q2⟩ := hc k hlt
      have h0 := cell_later hbel q0
      have h1 := cell_later hbel q1
      have h2 := cell_later hbel q2
      have hlt' : (k : Int) < (n : Int) := by omega
      have e1 : (ty k == t) = false := by simpa using HL.out k (by omega)
      clear q0 q1 q2
      go_wp2
      go_roundw
      case rel => exact ⟨k + 1, by omega, by go_num, by rw [Deep.blk_alloc_lt _ _ _ hz]; exact HB.out, hbel.alloc (by omega) _⟩
      case measure => simp [intOf]; omega
    · have c0 : wr.cell? ⟨w.heap.size, 0, none⟩ = some (.int .u16 0) := by rw [cell_of_row _ _ _ _ _ _ HB.out]; rfl
      have c1 : wr.cell? ⟨w.heap.size, 1, none⟩ = some (.int .i64 0) := by rw [cell_of_row _ _ _ _ _ _ HB.out]; rfl
      have c2 : wr.cell? ⟨w.heap.size, 2, none⟩ = some (.int .i64 0) := by rw [cell_of_row _ _ _ _ _ _ HB.out]; rfl
      have f0 := frozen_of_row _ _ 0 _ _ HB.out
      have f1 := frozen_of_row _ _ 1 _ _ HB.out
      have f2 := frozen_of_row _ _ 2 _ _ HB.out
      go_wp2
      exact bodyPost_ret (v := .tuple #[.agg #[.int .u16 0, .int .i64 0, .int .i64 0], .bool false]) (by simp [results, Try.results12, go_sem, c0, c1, c2]) rfl ⟨rfl, ((hbel.setCell (Nat.le_refl _) _).setCell (Nat.le_refl _) _).setCell (Nat.le_refl _) _⟩

set_option maxHeartbeats 400000 in
theorem find_yes (jb rb r n j : Nat) (ty fo fl : Nat → Int) (t : Int) (w : World) (hn : n ≤ 65537) (h : PM w jb rb r n ty fo fl) (hj : j < n) (ht : ty j = t) (hlo : ∀ q, q < j → ty q ≠ t) :
    Calls Try.prog 12 #[.pointer (some ⟨jb, 0, none⟩), .int .u16 t] w fun e w' => e = .returned (.tuple #[.agg #[.int .u16 (ty j), .int .i64 (fo j), .int .i64 (fl j)], .bool true]) ∧ Below w.heap.size w w' := by
  obtain ⟨_, a, c, hcm, hat⟩ := h
  have hjb : jb < w.heap.size := World.block_lt_of_cell? _ _ hcm
  obtain ⟨g, rfl, hc⟩ := hat (by omega)
  have HL : Hid (∀ q, q < j → ty q ≠ t) := hlo
  have HT : Hid (ty j = t) := ht
  clear hlo hat ht
  go_enter Try.func12, Try.ntmps12
  go_wp2
  go_loopw [13] (fun i wr => ∃ k : Nat, k ≤ j ∧ i = .int .i64 k ∧ wr.heap[w.heap.size]? = some (.cells #[.int .u16 0, .int .i64 0, .int .i64 0] 41 (0, 0)) ∧ Below w.heap.size w wr) (fun i _ => n - (intOf i).toNat)
  case atStart => exact ⟨0, Nat.zero_le _, rfl, Deep.blk_alloc_new _ _, (Below.refl _ _).alloc (Nat.le_refl _) _⟩
  case round =>
    obtain ⟨k, hk, rfl, hblk, hbel⟩ := hrel
    have hz := lt_of_block hblk
    have HB : Hid (wr.heap[w.heap.size]? = some (.cells #[.int .u16 0, .int .i64 0, .int .i64 0] 41 (0, 0))) := hblk
    clear hblk
    obtain ⟨q0, q1, q2⟩ := hc k (by omega)
    have h0 := cell_later hbel q0
    have h1 := cell_later hbel q1
    have h2 := cell_later hbel q2
    have hlt' : (k : Int) < (n : Int) := by omega
    clear q0 q1 q2
    by_cases e : k = j
    · subst e
      have e1 : (ty k == t) = true := by simpa using HT.out
      have c0 : wr.cell? ⟨w.heap.size, 0, none⟩ = some (.int .u16 0) := by rw [cell_of_row _ _ _ _ _ _ HB.out]; rfl
      have c1 : wr.cell? ⟨w.heap.size, 1, none⟩ = some (.int .i64 0) := by rw [cell_of_row _ _ _ _ _ _ HB.out]; rfl
      have c2 : wr.cell? ⟨w.heap.size, 2, none⟩ = some (.int .i64 0) := by rw [cell_of_row _ _ _ _ _ _ HB.out]; rfl
      have f0 := frozen_of_row _ _ 0 _ _ HB.out
      have f1 := frozen_of_row _ _ 1 _ _ HB.out
      have f2 := frozen_of_row _ _ 2 _ _ HB.out
      go_wp2
      exact bodyPost_ret (v := .tuple #[.agg #[.int .u16 (ty k), .int .i64 (fo k), .int .i64 (fl k)], .bool true]) (by simp [results, Try.results12, go_sem, c0, c1, c2, hz]) rfl
        ⟨rfl, (((hbel.setCell (Nat.le_refl _) _).setCell (Nat.le_refl _) _).setCell (Nat.le_refl _) _).alloc (by simp [World.setCell]; omega) _⟩
    · have e1 : (ty k == t) = false := by simpa using HL.out k (by omega)
      go_wp2
      go_roundw
      case rel => exact ⟨k + 1, by omega, by go_num, by rw [Deep.blk_alloc_lt _ _ _ hz]; exact HB.out, hbel.alloc (by omega) _⟩
      case measure => simp [intOf]; omega

set_option maxHeartbeats 400000 in
/-- The value of an attribute: a piece of raw. -/
theorem value_any (jb rb r n : Nat) (ty fo fl : Nat → Int) (t : Int) (of ln : Nat) (w : World) (hr : r ≤ 1048576) (h : PM w jb rb r n ty fo fl) (hv : of + 4 + ln ≤ r) :
    Calls Try.prog 13 #[.pointer (some ⟨jb, 0, none⟩), .agg #[.int .u16 t, .int .i64 (of : Int), .int .i64 (ln : Int)]] w fun e w' => (∃ a c, e = .returned (.slice a ln c) ∧ (0 < ln → a = some ⟨rb, of + 4, none⟩)) ∧ Below w.heap.size w w' := by
  obtain ⟨hc0, _⟩ := h
  have hjb : jb < w.heap.size := World.block_lt_of_cell? _ _ hc0
  have b1 : (of : Int) + 4 ≤ (r : Int) := by omega
  have b2 : (of : Int) + 4 + (ln : Int) ≤ (r : Int) := by omega
  go_enter Try.func13, Try.ntmps13
  go_wp2
  go_quiet (fail)
  go_wp2
  · go_ret
    refine ⟨⟨_, ⟨_, rfl⟩, fun h => ?_⟩, below_drewN ((Below.refl _ _).alloc (Nat.le_refl _) _) _⟩
    exfalso; omega
  · go_ret
    exact ⟨⟨_, ⟨_, rfl⟩, fun h => rfl⟩, below_drewN ((Below.refl _ _).alloc (Nat.le_refl _) _) _⟩

set_option maxHeartbeats 400000 in
theorem get_no (jb rb r n : Nat) (ty fo fl : Nat → Int) (t : Int) (w : World) (hn : n ≤ 65537) (h : PM w jb rb r n ty fo fl) (hlo : ∀ q, q < n → ty q ≠ t) :
    Calls Try.prog 9 #[.pointer (some ⟨jb, 0, none⟩), .int .u16 t] w fun e w' => e = .returned (.tuple #[.slice none 0 0, .bool false]) ∧ Below w.heap.size w w' := by
  have HP : Hid (PM w jb rb r n ty fo fl) := h
  have HL : Hid (∀ q, q < n → ty q ≠ t) := hlo
  clear h hlo
  go_enter Try.func9, Try.ntmps9
  go_wp2_with fail
  refine (find_no jb rb r n ty fo fl t w hn HP.out HL.out).mono ?_
  rintro e w1 ⟨rfl, hb⟩
  go_wp2
  go_ret2
  exact ⟨rfl, hb.alloc hb.size _⟩

set_option maxHeartbeats 400000 in
theorem get_yes (jb rb r n j : Nat) (ty fo fl : Nat → Int) (t : Int) (w : World) (hn : n ≤ 65537) (hr : r ≤ 1048576) (h : PM w jb rb r n ty fo fl) (hj : j < n) (ht : ty j = t) (hlo : ∀ q, q < j → ty q ≠ t)
    (of ln : Nat) (hof : fo j = of) (hln : fl j = ln) (hv : of + 4 + ln ≤ r) :
    Calls Try.prog 9 #[.pointer (some ⟨jb, 0, none⟩), .int .u16 t] w fun e w' => (∃ a c, e = .returned (.tuple #[.slice a ln c, .bool true]) ∧ (0 < ln → a = some ⟨rb, of + 4, none⟩)) ∧ Below w.heap.size w w' := by
  have HT : Hid (ty j = t) := ht
  have HL : Hid (∀ q, q < j → ty q ≠ t) := hlo
  have HO : Hid (fo j = of ∧ fl j = ln) := ⟨hof, hln⟩
  have HP : Hid (PM w jb rb r n ty fo fl) := h
  clear h ht hlo hof hln
  go_enter Try.func9, Try.ntmps9
  go_wp2_with fail
  refine (find_yes jb rb r n j ty fo fl t w hn HP.out hj HT.out HL.out).mono ?_
  rintro e w1 ⟨rfl, hb⟩
  rw [HO.out.1, HO.out.2]
  go_wp2_with fail
  refine (value_any jb rb r n ty fo fl (ty j) of ln _ hr (HP.out.mono (hb.alloc hb.size _)) hv).mono ?_
  rintro e w2 ⟨⟨a, c, rfl, ha⟩, hb2⟩
  have HA : Hid (0 < ln → a = some ⟨rb, of + 4, none⟩) := ha
  clear ha
  go_wp2
  go_ret2
  exact ⟨⟨a, c, rfl, HA.out⟩, (hb.alloc hb.size _).trans (hb2.mono (by have := hb.size; simp; omega))⟩

end Go.Proofs.Qxb6618334a
