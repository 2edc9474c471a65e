import Derived.Test.Qxb6618334aRows
import Derived.WalkKit
import Derived.WalkLawsBesides
import Derived.WalkSpells
import Derived.Deep.QuietTactic
import Derived.BigQuiet
import Derived.Deep.OwnRows
namespace Go.Proofs.Qxb6618334a
open Go.RowKit
set_option linter.unusedVariables false

theorem ret_bool {a b : Bool} (h : a = b) : Ending.returned (.bool a) = .returned (.bool b) := by rw [h]
theorem ret_int {k : IntKind} {a b : Int} (h : a = b) : Ending.returned (.int k a) = .returned (.int k b) := by rw [h]

/-- A slice of n integers that can be read: where it has an element it leads to its row. -/
def Rd (w : World) (k : IntKind) (a : Option Addr) (n : Nat) (f : Nat → Int) : Prop :=
  0 < n → ∃ b off, a = some ⟨b, off, none⟩ ∧ ∀ j, j < n → w.cell? ⟨b, off + j, none⟩ = some (.int k (f j))
theorem Rd.mono {w w' : World} {k : IntKind} {a : Option Addr} {n : Nat} {f : Nat → Int} (h : Rd w k a n f) (hb : Below w.heap.size w w') : Rd w' k a n f := fun hn => by
  obtain ⟨b, off, ha, hc⟩ := h hn
  exact ⟨b, off, ha, fun j hj => cell_later hb (hc j hj)⟩

set_option maxHeartbeats 1000000 in
theorem bytes_any (a0 : Option Addr) (l0 c0 : Nat) (a1 : Option Addr) (l1 c1 : Nat) (a2 : Option Addr) (l2 c2 : Nat) (a3 : Option Addr) (l3 c3 : Nat) (t u off ln k : Int) (w : World) (h0 : l0 ≤ maxLen) (h1 : l1 ≤ maxLen) (h2 : l2 ≤ maxLen) (h3 : l3 ≤ maxLen) :
    Calls Try.prog 4 #[.slice a0 l0 c0, .slice a1 l1 c1, .slice a2 l2 c2, .slice a3 l3 c3, .int .u16 t, .int .u16 u, .int .i64 off, .int .i64 ln, .int .i64 k] w fun e w' => e = .returned (.bool (decide (l0 + l1 + l2 + l3 ≤ 1048576))) ∧ w' = w := by
  unfold maxLen at h0 h1 h2 h3
  go_enter Try.func4, Try.ntmps4
  go_wp2
  all_goals
    go_ret
    refine ⟨ret_bool ?_, rfl⟩
    first | (symm; apply decide_eq_true; omega) | (symm; apply decide_eq_false; omega)

/-- The attribute's header and value lie inside raw. -/
def ov (r off ln : Int) : Bool := decide (0 ≤ off ∧ 0 ≤ ln ∧ off + 4 + ln ≤ r)
theorem ov_iff (r off ln : Int) : ov r off ln = true ↔ 0 ≤ off ∧ 0 ≤ ln ∧ off + 4 + ln ≤ r := by simp [ov]

set_option maxHeartbeats 400000 in
theorem one_any (r off ln : Int) (w : World) (hr0 : 0 ≤ r) (hr : r ≤ 1048576) :
    Calls Try.prog 6 #[.int .i64 r, .int .i64 off, .int .i64 ln] w fun e w' => e = .returned (.bool (ov r off ln)) ∧ w' = w := by
  by_cases g1 : off < 0
  · go_enter Try.func6, Try.ntmps6
    go_wp2
    go_ret
    exact ⟨ret_bool (by simp [ov]; omega), rfl⟩
  by_cases g2 : ln < 0
  · go_enter Try.func6, Try.ntmps6
    go_wp2
    go_ret
    exact ⟨ret_bool (by simp [ov]; omega), rfl⟩
  by_cases g3 : r < off
  · go_enter Try.func6, Try.ntmps6
    go_wp2
    go_ret
    exact ⟨ret_bool (by simp [ov]; omega), rfl⟩
  by_cases g4 : r < ln
  · go_enter Try.func6, Try.ntmps6
    go_wp2
    go_ret
    exact ⟨ret_bool (by simp [ov]; omega), rfl⟩
  by_cases g5 : off + 4 + ln ≤ r
  · go_enter Try.func6, Try.ntmps6
    go_wp2
    go_ret
    exact ⟨ret_bool (by simp [ov]; omega), rfl⟩
  · go_enter Try.func6, Try.ntmps6
    go_wp2
    go_ret
    exact ⟨ret_bool (by simp [ov]; omega), rfl⟩

/-- All n attributes lie inside raw. -/
def allv (r : Int) (fo fl : Nat → Int) : Nat → Bool
  | 0 => true
  | n + 1 => allv r fo fl n && ov r (fo n) (fl n)
theorem allv_iff (r : Int) (fo fl : Nat → Int) (n : Nat) : allv r fo fl n = true ↔ ∀ j, j < n → ov r (fo j) (fl j) = true := by
  induction n with
  | zero => simp [allv]
  | succ n ih =>
    simp only [allv, Bool.and_eq_true, ih]
    constructor
    · rintro ⟨h, hn⟩ j hj
      by_cases e : j = n
      · subst e; exact hn
      · exact h j (by omega)
    · intro h
      exact ⟨fun j hj => h j (by omega), h n (by omega)⟩
theorem allv_bad {r : Int} {fo fl : Nat → Int} {n k : Nat} (hk : k < n) (hb : ov r (fo k) (fl k) = false) : allv r fo fl n = false := by
  cases h : allv r fo fl n with
  | false => rfl
  | true => have := (allv_iff r fo fl n).1 h k hk; rw [hb] at this; cases this

set_option maxHeartbeats 400000 in
theorem attrs_no (r : Int) (a1 : Option Addr) (l1 c1 : Nat) (a2 : Option Addr) (l2 c2 : Nat) (a3 : Option Addr) (l3 c3 : Nat) (w : World) (h : ¬ (l2 = l1 ∧ l3 = l1)) :
    Calls Try.prog 5 #[.int .i64 r, .slice a1 l1 c1, .slice a2 l2 c2, .slice a3 l3 c3] w fun e w' => e = .returned (.bool false) ∧ w' = w := by
  by_cases g : ((l2 : Int) != (l1 : Int)) = true
  · go_enter Try.func5, Try.ntmps5
    go_wp2
    go_ret
    exact ⟨rfl, rfl⟩
  · have g' : ((l2 : Int) != (l1 : Int)) = false := by simpa using g
    have g2 : ((l3 : Int) != (l1 : Int)) = true := by simp at g'; simp; omega
    clear g
    go_enter Try.func5, Try.ntmps5
    go_wp2
    go_ret
    exact ⟨rfl, rfl⟩

set_option maxHeartbeats 400000 in
theorem attrs_any (r : Int) (n : Nat) (a1 : Option Addr) (c1 : Nat) (a2 : Option Addr) (c2 : Nat) (a3 : Option Addr) (c3 : Nat) (fo fl : Nat → Int) (w : World) (hn : n ≤ 65536) (hr0 : 0 ≤ r) (hr : r ≤ 1048576)
    (H2 : Rd w .i64 a2 n fo) (H3 : Rd w .i64 a3 n fl) :
    Calls Try.prog 5 #[.int .i64 r, .slice a1 n c1, .slice a2 n c2, .slice a3 n c3] w fun e w' => e = .returned (.bool (allv r fo fl n)) ∧ ∃ q, w' = w.drewN q := by
  have g0 : ((n : Int) != (n : Int)) = false := by simp
  by_cases hn0 : n = 0
  · subst hn0
    go_enter Try.func5, Try.ntmps5
    go_wp2
    refine wp_loop_rounds 1 ?_
    rw [rounds_succ]
    go_wp2
    go_ret
    exact ⟨rfl, 0, rfl⟩
  obtain ⟨b2, o2, rfl, hc2⟩ := H2 (by omega)
  obtain ⟨b3, o3, rfl, hc3⟩ := H3 (by omega)
  clear H2 H3
  go_enter Try.func5, Try.ntmps5
  go_wp2
  go_loopw [9] (fun i wr => ∃ k q : Nat, k ≤ n ∧ i = .int .i64 k ∧ (∀ j, j < k → ov r (fo j) (fl j) = true) ∧ wr = w.drewN q) (fun i _ => n - (intOf i).toNat)
  case atStart => exact ⟨0, 0, Nat.zero_le _, rfl, fun j hj => by omega, rfl⟩
  case round =>
    obtain ⟨k, q, hk, rfl, hall, hw⟩ := hrel
    have HA : Hid (∀ j, j < k → ov r (fo j) (fl j) = true) := hall
    have HW : Hid (wr = w.drewN q) := hw
    clear hall hw
    by_cases hlt : k < n
    · have h2 : wr.cell? ⟨b2, o2 + k, none⟩ = some (.int .i64 (fo k)) := by rw [HW.out]; exact hc2 k hlt
      have h3 : wr.cell? ⟨b3, o3 + k, none⟩ = some (.int .i64 (fl k)) := by rw [HW.out]; exact hc3 k hlt
      have hlt' : (k : Int) < (n : Int) := by omega
      cases hov : ov r (fo k) (fl k) with
      | true =>
        go_wp2
        go_quiet ((go_at_call 6; exact Calls.quiet_of_same (one_any _ _ _ _ hr0 hr)))
        go_wp2
        go_roundw
        case rel => exact ⟨k + 1, q + nq, by omega, by go_num, fun j hj => by
          by_cases e : j = k
          · subst e; exact hov
          · exact HA.out j (by omega), by rw [HW.out, World.drewN_drewN]⟩
        case measure => simp [intOf]; omega
      | false =>
        go_wp2
        go_quiet ((go_at_call 6; exact Calls.quiet_of_same (one_any _ _ _ _ hr0 hr)))
        go_wp2
        go_ret
        exact ⟨ret_bool (allv_bad hlt hov).symm, q + nq, by rw [HW.out, World.drewN_drewN]⟩
    · go_wp2
      go_ret
      exact ⟨ret_bool ((allv_iff r fo fl n).2 (fun j hj => HA.out j (by omega))).symm, q, HW.out⟩

set_option maxHeartbeats 400000 in
/-- The first place that bears t. -/
theorem first_yes (n j : Nat) (a : Option Addr) (c : Nat) (ty : Nat → Int) (t : Int) (w : World) (hn : n ≤ 65537) (H : Rd w .u16 a n ty) (hj : j < n) (ht : ty j = t) (hlo : ∀ q, q < j → ty q ≠ t) :
    Calls Try.prog 10 #[.slice a n c, .int .u16 t] w fun e w' => e = .returned (.int .i64 (j : Int)) ∧ w' = w := by
  obtain ⟨b, o, rfl, hc⟩ := H (by omega)
  have HT : Hid (ty j = t) := ht
  have HL : Hid (∀ q, q < j → ty q ≠ t) := hlo
  clear ht hlo H
  go_enter Try.func10, Try.ntmps10
  go_wp2
  go_loop [5] (fun i => ∃ k : Nat, k ≤ j ∧ i = .int .i64 k) (fun i => n - (intOf i).toNat)
  case atStart => exact ⟨0, Nat.zero_le _, rfl⟩
  case round =>
    obtain ⟨k, hk, rfl⟩ := hrel
    have h := hc k (by omega)
    have hlt' : (k : Int) < (n : Int) := by omega
    by_cases e : k = j
    · subst e
      have e1 : (ty k == t) = true := by simpa using HT.out
      go_wp2
      go_ret
      exact ⟨rfl, rfl⟩
    · have e1 : (ty k == t) = false := by simpa using HL.out k (by omega)
      go_wp2
      go_round
      case rel => exact ⟨k + 1, by omega, by go_num⟩
      case measure => simp [intOf]; omega

set_option maxHeartbeats 400000 in
/-- No place bears t. -/
theorem first_no (n : Nat) (a : Option Addr) (c : Nat) (ty : Nat → Int) (t : Int) (w : World) (hn : n ≤ 65537) (H : Rd w .u16 a n ty) (hlo : ∀ q, q < n → ty q ≠ t) :
    Calls Try.prog 10 #[.slice a n c, .int .u16 t] w fun e w' => e = .returned (.int .i64 (-1)) ∧ w' = w := by
  by_cases hn0 : n = 0
  · subst hn0
    go_enter Try.func10, Try.ntmps10
    go_wp2
    refine wp_loop_rounds 1 ?_
    rw [rounds_succ]
    go_wp2
    go_ret
    exact ⟨rfl, rfl⟩
  obtain ⟨b, o, rfl, hc⟩ := H (by omega)
  have HL : Hid (∀ q, q < n → ty q ≠ t) := hlo
  clear hlo H
  go_enter Try.func10, Try.ntmps10
  go_wp2
  go_loop [5] (fun i => ∃ k : Nat, k ≤ n ∧ i = .int .i64 k) (fun i => n - (intOf i).toNat)
  case atStart => exact ⟨0, Nat.zero_le _, rfl⟩
  case round =>
    obtain ⟨k, hk, rfl⟩ := hrel
    by_cases hlt : k < n
    · have h := hc k (by omega)
      have hlt' : (k : Int) < (n : Int) := by omega
      have e1 : (ty k == t) = false := by simpa using HL.out k (by omega)
      go_wp2
      go_round
      case rel => exact ⟨k + 1, by omega, by go_num⟩
      case measure => simp [intOf]; omega
    · go_wp2
      go_ret
      exact ⟨rfl, rfl⟩

set_option maxHeartbeats 400000 in
/-- Two slices of the same bytes are told equal. -/
theorem eq_any (n : Nat) (a : Option Addr) (c : Nat) (a' : Option Addr) (c' : Nat) (f : Nat → Int) (w : World) (hn : n ≤ 1048576) (H : Rd w .u8 a n f) (H' : Rd w .u8 a' n f) :
    Calls Try.prog 11 #[.slice a n c, .slice a' n c'] w fun e w' => e = .returned (.bool true) ∧ ∃ q, w' = w.drewN q := by
  have g0 : ((n : Int) != (n : Int)) = false := by simp
  by_cases hn0 : n = 0
  · subst hn0
    go_enter Try.func11, Try.ntmps11
    go_wp2
    refine wp_loop_rounds 1 ?_
    rw [rounds_succ]
    go_wp2
    go_ret
    exact ⟨rfl, 0, rfl⟩
  obtain ⟨b, o, rfl, hc⟩ := H (by omega)
  obtain ⟨b', o', rfl, hc'⟩ := H' (by omega)
  clear H H'
  go_enter Try.func11, Try.ntmps11
  go_wp2
  go_loopw [5] (fun i wr => ∃ k q : Nat, k ≤ n ∧ i = .int .i64 k ∧ wr = w.drewN q) (fun i _ => n - (intOf i).toNat)
  case atStart => exact ⟨0, 0, Nat.zero_le _, rfl, rfl⟩
  case round =>
    obtain ⟨k, q, hk, rfl, hw⟩ := hrel
    have HW : Hid (wr = w.drewN q) := hw
    clear hw
    by_cases hlt : k < n
    · have h2 : wr.cell? ⟨b, o + k, none⟩ = some (.int .u8 (f k)) := by rw [HW.out]; exact hc k hlt
      have h3 : wr.cell? ⟨b', o' + k, none⟩ = some (.int .u8 (f k)) := by rw [HW.out]; exact hc' k hlt
      have hlt' : (k : Int) < (n : Int) := by omega
      have e1 : (f k != f k) = false := by simp
      go_wp2
      go_quiet (fail)
      go_wp2
      go_roundw
      case rel => exact ⟨k + 1, q + nq, by omega, by go_num, by rw [HW.out, World.drewN_drewN]⟩
      case measure => simp [intOf]; omega
    · go_wp2
      go_ret
      exact ⟨rfl, q, HW.out⟩

theorem Try.info5 : (Try.prog.info? 5).map (fun i => (i.zero, i.size, i.bytes)) = some (some (.int .u8 0), 1, 1) := by kernel_rfl
/-- A row of kind K being filled: the first p cells are laid, the rest is zero. -/
def fillc (K : IntKind) (g : Nat → Int) (p j : Nat) : Value := if j < p then .int K (g j) else .int K 0
theorem fill_start (K : IntKind) (e : TypeId) (w : World) (n : Nat) (g : Nat → Int) : (w.alloc (.cells (madeCells #[.int K 0] n) e)).rowIs w.heap.size e n (fillc K g 0) :=
  (World.rowIs_made w (.int K 0) n e).congr fun i _ => by simp [fillc]
theorem fill_step {K : IntKind} {e : TypeId} {w : World} {B n p : Nat} {g : Nat → Int} {v : Int} (h : w.rowIs B e n (fillc K g p)) (hv : v = g p) : (w.setCell ⟨B, p, none⟩ (.int K v)).rowIs B e n (fillc K g (p + 1)) := by
  subst hv
  refine (h.set p (.int K (g p))).congr fun j hj => ?_
  unfold fillc
  by_cases e : j = p
  · subst e; rw [if_pos rfl, if_pos (by omega)]
  · rw [if_neg e]
    by_cases c : j < p
    · rw [if_pos c, if_pos (by omega)]
    · rw [if_neg c, if_neg (by omega)]
theorem fill_done {K : IntKind} {e : TypeId} {w : World} {B n : Nat} {g : Nat → Int} (h : w.rowIs B e n (fillc K g n)) : w.rowIs B e n (fun j => .int K (g j)) :=
  h.congr fun j hj => by simp [fillc, hj]

set_option maxHeartbeats 400000 in
/-- The copy of raw. -/
theorem clone_any (n b o c : Nat) (f : Nat → Int) (w : World) (hn : n ≤ 1048576) (hb : b < w.heap.size) (hc : ∀ j, j < n → w.cell? ⟨b, o + j, none⟩ = some (.int .u8 (f j))) :
    Calls Try.prog 7 #[.slice (some ⟨b, o, none⟩) n c] w fun e w' => e = .returned (.slice (some ⟨w.heap.size, 0, none⟩) n n) ∧ w'.rowIs w.heap.size 5 n (fun j => .int .u8 (f j)) ∧ Below w.heap.size w w' := by
  have hne := fun w => Lib.run_eql_slice_nil (P := Try.prog) w 22 5 (some ⟨b, o, none⟩) n c 0 0 Try.underlying22
  have hmk := run_make_row' (P := Try.prog) 22 5 (.int .u8 0) 1 Try.underlying22 Try.info5 rfl .i64 .i64 n (by omega) (by omega)
  go_enter Try.func7, Try.ntmps7
  go_wp2
  go_loopw [4] (fun i wr => ∃ k : Nat, k ≤ n ∧ i = .int .i64 k ∧ wr.rowIs w.heap.size 5 n (fillc .u8 f k) ∧ Below w.heap.size w wr) (fun i _ => n - (intOf i).toNat)
  case atStart => exact ⟨0, Nat.zero_le _, rfl, fill_start .u8 5 w n f, (Below.refl _ _).alloc (Nat.le_refl _) _⟩
  case round =>
    obtain ⟨k, hk, rfl, hrow, hbel⟩ := hrel
    have HR : Hid (wr.rowIs w.heap.size 5 n (fillc .u8 f k)) := hrow
    clear hrow
    by_cases hlt : k < n
    · have h1 : wr.cell? ⟨b, o + k, none⟩ = some (.int .u8 (f k)) := (hbel.cell (by exact hb)).trans (hc k hlt)
      have h2 := HR.out.cell hlt
      have h3 := HR.out.frozen k
      have hlt' : (k : Int) < (n : Int) := by omega
      go_wp2
      go_roundw
      case rel => exact ⟨k + 1, by omega, by go_num, fill_step HR.out rfl, hbel.setCell (Nat.le_refl _) _⟩
      case measure => simp [intOf]; omega
    · obtain rfl : k = n := by omega
      go_wp2
      go_ret
      exact ⟨rfl, fill_done HR.out, hbel⟩

end Go.Proofs.Qxb6618334a
