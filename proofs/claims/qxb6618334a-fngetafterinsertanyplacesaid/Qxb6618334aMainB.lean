import Derived.Test.Qxb6618334aMainA
namespace Go.Proofs.Qxb6618334a
open Go.RowKit
set_option linter.unusedVariables false
set_option maxRecDepth 100000

set_option maxHeartbeats 1000000 in
/-- Too long, or slices of unlike lengths: true at once. -/
theorem early (a0 : Option Addr) (l0 c0 : Nat) (a1 : Option Addr) (l1 c1 : Nat) (a2 : Option Addr) (l2 c2 : Nat) (a3 : Option Addr) (l3 c3 : Nat) (t u off ln k : Int) (w : World)
    (h0 : l0 ≤ maxLen) (h1 : l1 ≤ maxLen) (h2 : l2 ≤ maxLen) (h3 : l3 ≤ maxLen) (h : ¬ (l0 + l1 + l2 + l3 ≤ 1048576 ∧ l1 ≤ 65536 ∧ l2 = l1 ∧ l3 = l1)) :
    Calls Try.prog 3 #[.slice a0 l0 c0, .slice a1 l1 c1, .slice a2 l2 c2, .slice a3 l3 c3, .int .u16 t, .int .u16 u, .int .i64 off, .int .i64 ln, .int .i64 k] w fun e w' => e = .returned (.bool true) ∧ Below w.heap.size w w' := by
  by_cases hd : l0 + l1 + l2 + l3 ≤ 1048576
  · have hd' : decide (l0 + l1 + l2 + l3 ≤ 1048576) = true := decide_eq_true hd
    by_cases g : 65536 < l1 ∨ 65536 < l2 ∨ 65536 < l3
    · have G : Hid (65536 < l1 ∨ 65536 < l2 ∨ 65536 < l3) := g
      clear g h
      go_enter Try.func3, Try.ntmps3
      go_wp2_with fail
      refine (bytes_any _ _ _ _ _ _ _ _ _ _ _ _ _ _ _ _ _ _ h0 h1 h2 h3).mono ?_
      rintro e w2 ⟨rfl, hw2⟩
      rw [hw2, hd']
      clear hw2 w2
      by_cases g1 : 65536 < l1
      · have g1' : (65536 : Int) < (l1 : Int) := by omega
        go_wp2_with fail
        go_ret
        exact ⟨rfl, Below.refl _ _⟩
      · by_cases g2 : 65536 < l2
        · have g1' : ¬ (65536 : Int) < (l1 : Int) := by omega
          have g2' : (65536 : Int) < (l2 : Int) := by omega
          go_wp2_with fail
          go_ret
          exact ⟨rfl, Below.refl _ _⟩
        · have g1' : ¬ (65536 : Int) < (l1 : Int) := by omega
          have g2' : ¬ (65536 : Int) < (l2 : Int) := by omega
          have g3' : (65536 : Int) < (l3 : Int) := by have := G.out; omega
          go_wp2_with fail
          go_ret
          exact ⟨rfl, Below.refl _ _⟩
    · have HN : Hid (¬ (l2 = l1 ∧ l3 = l1)) := fun e => h ⟨hd, by omega, e.1, e.2⟩
      have g1' : ¬ (65536 : Int) < (l1 : Int) := by omega
      have g2' : ¬ (65536 : Int) < (l2 : Int) := by omega
      have g3' : ¬ (65536 : Int) < (l3 : Int) := by omega
      clear g h
      go_enter Try.func3, Try.ntmps3
      go_wp2_with fail
      refine (bytes_any _ _ _ _ _ _ _ _ _ _ _ _ _ _ _ _ _ _ h0 h1 h2 h3).mono ?_
      rintro e w2 ⟨rfl, hw2⟩
      rw [hw2, hd']
      clear hw2 w2
      go_wp2_with fail
      refine (attrs_no _ _ _ _ _ _ _ _ _ _ _ HN.out).mono ?_
      rintro e w2 ⟨rfl, hw2⟩
      rw [hw2]
      clear hw2 w2
      go_wp2_with fail
      go_ret
      exact ⟨rfl, Below.refl _ _⟩
  · have hd' : decide (l0 + l1 + l2 + l3 ≤ 1048576) = false := decide_eq_false hd
    clear h
    go_enter Try.func3, Try.ntmps3
    go_wp2_with fail
    refine (bytes_any _ _ _ _ _ _ _ _ _ _ _ _ _ _ _ _ _ _ h0 h1 h2 h3).mono ?_
    rintro e w2 ⟨rfl, hw2⟩
    rw [hw2, hd']
    clear hw2 w2
    go_wp2_with fail
    go_ret
    exact ⟨rfl, Below.refl _ _⟩

end Go.Proofs.Qxb6618334a
