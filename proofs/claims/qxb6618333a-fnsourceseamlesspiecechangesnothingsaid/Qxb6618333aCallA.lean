import Derived.Test.Qxb6618333aRows
import Derived.WalkKit
import Derived.WalkLawsBesides
import Derived.WalkSpells
import Derived.Deep.QuietTactic
import Derived.BigQuiet
import Derived.Deep.OwnRows
namespace Go.Proofs.Qxb6618333a
open Go.RowKit
set_option linter.unusedVariables false

theorem ret_bool {a b : Bool} (h : a = b) : Ending.returned (.bool a) = .returned (.bool b) := by rw [h]
theorem ret_int {k : IntKind} {a b : Int} (h : a = b) : Ending.returned (.int k a) = .returned (.int k b) := by rw [h]

set_option maxHeartbeats 400000 in
theorem bytes_any (a0 : Option Addr) (l0 c0 : Nat) (a1 : Option Addr) (l1 c1 : Nat) (i m k : Int) (w : World) (h0 : l0 ≤ maxLen) (h1 : l1 ≤ maxLen) :
    Calls Try.prog 5 #[.slice a0 l0 c0, .slice a1 l1 c1, .int .i64 i, .int .i64 m, .int .i64 k] w fun e w' => e = .returned (.bool (decide (l0 + l1 ≤ 1048576))) ∧ w' = w := by
  unfold maxLen at h0 h1
  by_cases g0 : l0 ≤ 1048576
  · by_cases g1 : l1 ≤ 1048576
    · by_cases g2 : l0 + l1 ≤ 1048576
      · go_enter Try.func5, Try.ntmps5
        go_wp2
        go_ret
        exact ⟨ret_bool (by simp [g2]), rfl⟩
      · go_enter Try.func5, Try.ntmps5
        go_wp2
        go_ret
        exact ⟨ret_bool (by simp [g2]), rfl⟩
    · go_enter Try.func5, Try.ntmps5
      go_wp2
      go_ret
      exact ⟨ret_bool (by simp; omega), rfl⟩
  · go_enter Try.func5, Try.ntmps5
    go_wp2
    go_ret
    exact ⟨ret_bool (by simp; omega), rfl⟩

/-- Every one of the first n numbers lies between lo and hi. -/
def inR (f : Nat → Int) (lo hi : Int) : Nat → Bool
  | 0 => true
  | n + 1 => inR f lo hi n && decide (lo ≤ f n ∧ f n ≤ hi)
theorem inR_iff (f : Nat → Int) (lo hi : Int) (n : Nat) : inR f lo hi n = true ↔ ∀ j, j < n → lo ≤ f j ∧ f j ≤ hi := by
  induction n with
  | zero => simp [inR]
  | succ n ih =>
    simp only [inR, Bool.and_eq_true, decide_eq_true_eq, ih]
    constructor
    · rintro ⟨h, hn⟩ j hj
      by_cases e : j = n
      · subst e; exact hn
      · exact h j (by omega)
    · intro h
      exact ⟨fun j hj => h j (by omega), h n (by omega)⟩
theorem inR_bad {f : Nat → Int} {lo hi : Int} {n k : Nat} (hk : k < n) (hb : f k < lo ∨ hi < f k) : inR f lo hi n = false := by
  cases h : inR f lo hi n with
  | false => rfl
  | true => have := (inR_iff f lo hi n).1 h k hk; omega

set_option maxHeartbeats 400000 in
theorem inRange_any (g n c : Nat) (f : Nat → Int) (lo hi : Int) (w : World) (hn : n ≤ 65536)
    (hc : ∀ j, j < n → w.cell? ⟨g, j, none⟩ = some (.int .i64 (f j))) :
    Calls Try.prog 6 #[.slice (some ⟨g, 0, none⟩) n c, .int .i64 lo, .int .i64 hi] w fun e w' => e = .returned (.bool (inR f lo hi n)) ∧ w' = w := by
  go_enter Try.func6, Try.ntmps6
  go_wp2
  go_loop [7] (fun i => ∃ k : Nat, k ≤ n ∧ i = .int .i64 k ∧ ∀ j, j < k → lo ≤ f j ∧ f j ≤ hi) (fun i => n - (intOf i).toNat)
  case atStart => exact ⟨0, Nat.zero_le _, rfl, fun j hj => by omega⟩
  case round =>
    obtain ⟨k, hk, rfl, hall⟩ := hrel
    have HA : Hid (∀ j, j < k → lo ≤ f j ∧ f j ≤ hi) := hall
    clear hall
    by_cases hlt : k < n
    · have hck := hc k hlt
      by_cases h1 : f k < lo
      · go_wp2
        go_ret
        exact ⟨ret_bool (inR_bad hlt (Or.inl h1)).symm, rfl⟩
      · by_cases h2 : hi < f k
        · go_wp2
          go_ret
          exact ⟨ret_bool (inR_bad hlt (Or.inr h2)).symm, rfl⟩
        · go_wp2
          go_round
          case rel => exact ⟨k + 1, by omega, by go_num, fun j hj => by
            by_cases e : j = k
            · subst e; omega
            · exact HA.out j (by omega)⟩
          case measure => simp [intOf]; omega
    · go_wp2
      go_ret
      exact ⟨ret_bool ((inR_iff f lo hi n).2 (fun j hj => HA.out j (by omega))).symm, rfl⟩

/-- The first n numbers ascend strictly. -/
def asc (f : Nat → Int) : Nat → Bool
  | 0 => true
  | 1 => true
  | n + 2 => asc f (n + 1) && decide (f n < f (n + 1))
theorem asc_iff (f : Nat → Int) (n : Nat) : asc f n = true ↔ ∀ j, j + 1 < n → f j < f (j + 1) := by
  match n with
  | 0 => simp [asc]
  | 1 => simp [asc]
  | n + 2 =>
    simp only [asc, Bool.and_eq_true, decide_eq_true_eq, asc_iff f (n + 1)]
    constructor
    · rintro ⟨h, hn⟩ j hj
      by_cases e : j = n
      · subst e; exact hn
      · exact h j (by omega)
    · intro h
      exact ⟨fun j hj => h j (by omega), h n (by omega)⟩
theorem asc_bad {f : Nat → Int} {n k : Nat} (hk : k + 1 < n) (hb : f (k + 1) ≤ f k) : asc f n = false := by
  cases h : asc f n with
  | false => rfl
  | true => have := (asc_iff f n).1 h k hk; omega

set_option maxHeartbeats 400000 in
theorem ascending_any (g n c : Nat) (f : Nat → Int) (w : World) (hn : n ≤ 65536)
    (hc : ∀ j, j < n → w.cell? ⟨g, j, none⟩ = some (.int .i64 (f j))) :
    Calls Try.prog 7 #[.slice (some ⟨g, 0, none⟩) n c] w fun e w' => e = .returned (.bool (asc f n)) ∧ ∃ q, w' = w.drewN q := by
  go_enter Try.func7, Try.ntmps7
  go_wp2
  go_loopw [3] (fun i wr => ∃ k q : Nat, 1 ≤ k ∧ i = .int .i64 k ∧ (∀ j, j + 1 < k → j + 1 < n → f j < f (j + 1)) ∧ wr = w.drewN q) (fun i _ => n - (intOf i).toNat)
  case atStart => exact ⟨1, 0, Nat.le_refl _, rfl, fun j hj => by omega, rfl⟩
  case round =>
    obtain ⟨k, q, hk, rfl, hall, rfl⟩ := hrel
    have HA : Hid (∀ j, j + 1 < k → j + 1 < n → f j < f (j + 1)) := hall
    clear hall
    by_cases hlt : k < n
    · have hck := hc k hlt
      obtain ⟨k', rfl⟩ : ∃ k', k = k' + 1 := ⟨k - 1, by omega⟩
      have hck' := hc k' (by omega)
      have hb1 : (k' : Int) < (n : Int) := by omega
      have hb2 : ((k' : Int) + 1) < (n : Int) := by omega
      by_cases h1 : f (k' + 1) ≤ f k'
      · go_wp2
        go_quiet (fail)
        go_wp2
        go_ret
        exact ⟨ret_bool (asc_bad (by omega) h1).symm, q + nq, by rw [World.drewN_drewN]⟩
      · go_wp2
        go_quiet (fail)
        go_wp2
        go_roundw
        case rel => exact ⟨k' + 1 + 1, q + nq, by omega, by go_num, fun j hj hj' => by
          by_cases e : j = k'
          · subst e; omega
          · exact HA.out j (by omega) hj', rfl⟩
        case measure => simp [intOf]; omega
    · go_wp2
      go_ret
      exact ⟨ret_bool ((asc_iff f n).2 (fun j hj => HA.out j (by omega) hj)).symm, q, rfl⟩

end Go.Proofs.Qxb6618333a
