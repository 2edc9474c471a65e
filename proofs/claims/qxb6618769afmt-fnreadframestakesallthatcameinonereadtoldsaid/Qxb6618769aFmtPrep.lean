import Derived.Test.Qxb6618769aFmtZz
import Derived.Test.Qxb6618769aFmtModel
import Derived.Test.Qxb6618769aFmtNew
namespace Go.Proofs.Qxb6618769aFmt
open Go.Extern.Stop Go.Stop Go.Extern Go.RowKit
set_option linter.unusedVariables false
set_option maxRecDepth 100000

theorem Cut.uniq {D : Nat → Int} {c e m m' : Nat} (h : Cut D c e m) (h' : Cut D c e m') : m = m' := by
  rcases Nat.lt_trichotomy m m' with h1 | h1 | h1
  · exact absurd (h'.1 m h1) h.2
  · exact h1
  · exact absurd (h.1 m' h1) h'.2
theorem whole_iff (G : Geo) (c : Nat) : whole G c ↔ stp G.D c 1 ≤ G.n := by
  unfold whole
  show _ ↔ c + 2 + bd G.D c ≤ G.n
  omega
theorem stp_add (D : Nat → Int) (c i j : Nat) : stp D (stp D c i) j = stp D c (i + j) := by
  induction j with
  | zero => rfl
  | succ j ih => show stp D (stp D c i) j + 2 + bd D (stp D (stp D c i) j) = _; rw [ih]; rfl

/-- The argument 'data' as the call finds it. -/
def Arg (w : World) (a : Option Addr) (n cp : Nat) (f : Nat → Int) : Prop :=
  (a = none ∧ n = 0 ∧ cp = 0) ∨ (n = 0 ∧ ∃ x, a = some x) ∨ ∃ b o, a = some ⟨b, o, none⟩ ∧ b < w.heap.size ∧ ∀ j, j < n → w.cell? ⟨b, o + j, none⟩ = some (.int .u8 (f j))

set_option maxHeartbeats 400000 in
theorem clone_zero (x : Addr) (c : Nat) (w : World) : Calls Tryf.prog 6 #[.slice (some x) 0 c] w fun e w' => e = .returned (.slice (some ⟨w.heap.size, 0, none⟩) 0 0) ∧ Below w.heap.size w w' := by
  have hne := fun w => Lib.run_eql_slice_nil (P := Tryf.prog) w 22 5 (some x) 0 c 0 0 Tryf.underlying22
  have hmk := run_make_row' (P := Tryf.prog) 22 5 (.int .u8 0) 1 Tryf.underlying22 info5 rfl .i64 .i64 0 (by omega) (by omega)
  rw [show ((0 : Nat) : Int) = 0 from rfl] at hmk
  go_enter Tryf.func6, Tryf.ntmps6
  go_wp2
  refine wp_loop_rounds 1 ?_
  rw [rounds_succ]
  go_wp2
  go_ret
  exact ⟨rfl, (Below.refl _ _).alloc (Nat.le_refl _) _⟩
/-- zzCloneBytes, nil too. -/
theorem clone_all (a : Option Addr) (n cp : Nat) (f : Nat → Int) (w : World) (hn : n ≤ 1048576) (h8 : 8 ≤ w.heap.size) (hA : Arg w a n cp f) :
    Calls Tryf.prog 6 #[.slice a n cp] w fun e w' => ∃ da B, e = .returned (.slice da n n) ∧ DA w' B da n f ∧ B < w'.heap.size ∧ Below w.heap.size w w' := by
  rcases hA with ⟨rfl, rfl, rfl⟩ | ⟨rfl, x, rfl⟩ | ⟨b, o, rfl, hb, hc⟩
  · refine (clone_nil w).mono ?_
    rintro e w' ⟨rfl, rfl⟩
    exact ⟨none, 0, rfl, fun h => by omega, by omega, Below.refl _ _⟩
  · refine (clone_zero x cp w).mono ?_
    rintro e w' ⟨rfl, h3⟩
    exact ⟨_, 0, rfl, fun h => by omega, by have := h3.size; omega, h3⟩
  · refine (clone_any n b o cp f w hn hb hc).mono ?_
    rintro e w' ⟨rfl, h2, h3⟩
    exact ⟨_, w.heap.size, rfl, fun _ => ⟨rfl, fun j hj => h2.cell hj⟩, h2.lt, h3⟩

/-- The state behind the first three statements: the model's pieces, a fresh reader over the data. -/
structure Ready (w : World) (M0 : Nat) (G : Geo) (Mn : Nat) (aw : Option Addr) (cw : Nat) (w3 : World) : Prop where
  ok : G.Ok
  lo : G.Lo M0
  ri : RI G w3 0 0
  cut : Cut G.D 0 G.n Mn
  form : 0 < Mn → ∃ gw, aw = some ⟨gw, 0, none⟩ ∧ gw < M0 ∧ ∀ i, i < Mn → w3.cell? ⟨gw, i, none⟩ = some (.slice (some ⟨G.B, stp G.D 0 i, none⟩) (2 + bd G.D (stp G.D 0 i)) (G.n - stp G.D 0 i))
  nil : Mn = 0 → aw = none ∧ cw = 0 ∨ True
  nB : G.B < M0
  wM : w.heap.size ≤ M0
  M3 : M0 ≤ w3.heap.size
  bel : Below w.heap.size w w3
end Go.Proofs.Qxb6618769aFmt
