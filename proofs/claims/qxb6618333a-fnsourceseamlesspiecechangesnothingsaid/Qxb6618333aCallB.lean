import Derived.Test.Qxb6618333aCallA
namespace Go.Proofs.Qxb6618333a
open Go.RowKit
set_option linter.unusedVariables false

/-- A Joined lies at block jb: its pieces are n pairs (at, src) at the head of block g. -/
def PJ (w : World) (jb g n : Nat) (fa fs : Nat → Int) : Prop :=
  w.cell? ⟨jb, 7, none⟩ = some (.slice (some ⟨g, 0, none⟩) n n) ∧ g < w.heap.size ∧ jb < w.heap.size ∧ ∀ j, j < n → w.cell? ⟨g, j * 2, none⟩ = some (.int .i64 (fa j)) ∧ w.cell? ⟨g, j * 2 + 1, none⟩ = some (.int .i64 (fs j))

/-- Piece j is the one that Source takes at i. -/
def Pk (fa : Nat → Int) (n : Nat) (i : Int) (j : Nat) : Prop := j < n ∧ (∀ q, 1 ≤ q → q ≤ j → fa q ≤ i) ∧ (j + 1 < n → i < fa (j + 1))

theorem pk_unique {fa : Nat → Int} {n j k : Nat} {i : Int} (hj : j < n) (h1 : ∀ q, 1 ≤ q → q ≤ j → fa q ≤ i) (h2 : j + 1 < n → i < fa (j + 1))
    (hk : k < n) (g1 : ∀ q, 1 ≤ q → q ≤ k → fa q ≤ i) (g2 : k + 1 < n → i < fa (k + 1)) : j = k := by
  rcases Nat.lt_trichotomy j k with h | h | h
  · have := h2 (by omega); have := g1 (j + 1) (by omega) (by omega); omega
  · exact h
  · have := g2 (by omega); have := h1 (k + 1) (by omega) (by omega); omega

theorem pair_set {wr : World} {B : Nat} {u0 u1 : Value} (x y : Value) (o : Obj) (h0 : wr.cell? ⟨B, 0, none⟩ = some u0) (h1 : wr.cell? ⟨B, 1, none⟩ = some u1)
    (f0 : wr.frozen? ⟨B, 0, none⟩ = false) (f1 : wr.frozen? ⟨B, 1, none⟩ = false) (hB : B < wr.heap.size) :
    (((wr.setCell ⟨B, 0, none⟩ x).setCell ⟨B, 1, none⟩ y).alloc o).cell? ⟨B, 0, none⟩ = some x ∧ (((wr.setCell ⟨B, 0, none⟩ x).setCell ⟨B, 1, none⟩ y).alloc o).cell? ⟨B, 1, none⟩ = some y ∧
    (((wr.setCell ⟨B, 0, none⟩ x).setCell ⟨B, 1, none⟩ y).alloc o).frozen? ⟨B, 0, none⟩ = false ∧ (((wr.setCell ⟨B, 0, none⟩ x).setCell ⟨B, 1, none⟩ y).alloc o).frozen? ⟨B, 1, none⟩ = false := by
  have hs : ((wr.setCell ⟨B, 0, none⟩ x).setCell ⟨B, 1, none⟩ y).heap.size = wr.heap.size := by simp [World.setCell]
  refine ⟨?_, ?_, ?_, ?_⟩
  · rw [World.cell?_alloc_lt _ _ _ (by rw [hs]; exact hB), World.cell?_setCell_other _ _ _ _ (by simp), World.cell?_setCell_same _ _ _ h0]
  · rw [World.cell?_alloc_lt _ _ _ (by rw [hs]; exact hB), World.cell?_setCell_same _ _ _ (u := u1)]
    rw [World.cell?_setCell_other _ _ _ _ (by simp), h1]
  · rw [World.frozen?_alloc_old _ _ _ (by rw [hs]; exact Nat.ne_of_lt hB)]; simp [f0]
  · rw [World.frozen?_alloc_old _ _ _ (by rw [hs]; exact Nat.ne_of_lt hB)]; simp [f1]

set_option maxHeartbeats 400000 in
theorem source_any (jb g n : Nat) (fa fs : Nat → Int) (i v : Int) (w : World) (hn : n ≤ 65537) (h : PJ w jb g n fa fs) (j : Nat) (hj : Pk fa n i j)
    (hi : 0 ≤ i ∧ i ≤ 1152921504606846975) (hb : ∀ j, j < n → (0 ≤ fa j ∧ fa j ≤ 1152921504606846975) ∧ (0 ≤ fs j ∧ fs j ≤ 2305843009213693951)) (hv : v = fs j + i - fa j) :
    Calls Try.prog 9 #[.pointer (some ⟨jb, 0, none⟩), .int .i64 i] w fun e w' => e = .returned (.int .i64 v) ∧ Below w.heap.size w w' := by
  obtain ⟨hjc, hg, hjb, hp⟩ := h
  obtain ⟨hjn, hj1, hj2⟩ := hj
  have HV : Hid (v = fs j + i - fa j) := hv
  have H1 : Hid (∀ q, 1 ≤ q → q ≤ j → fa q ≤ i) := hj1
  have H2 : Hid (j + 1 < n → i < fa (j + 1)) := hj2
  clear hv hj1 hj2
  obtain ⟨n', rfl⟩ : ∃ n', n = n' + 1 := ⟨n - 1, by omega⟩
  have hp0 := hp 0 (by omega)
  obtain ⟨hp0a, hp0s⟩ := hp0
  have hl0 : (0 : Int) < ((n' : Int) + 1) := by omega
  simp only [Nat.zero_mul, Nat.zero_add] at hp0a hp0s
  have hi1 := hi.1
  have hi2 := hi.2
  by_cases hn0 : n' = 0
  · subst hn0
    obtain rfl : j = 0 := by omega
    have hbb := hb 0 (by omega)
    obtain ⟨⟨b1, b2⟩, b3, b4⟩ := hbb
    go_enter Try.func9, Try.ntmps9
    go_wp2
    refine wp_loop_rounds 1 ?_
    rw [rounds_succ]
    go_wp2
    go_ret
    exact ⟨ret_int HV.out.symm, (Below.refl _ _).alloc (Nat.le_refl _) _⟩
  · have hn1 : ¬ ((n' : Int) = 0) := by omega
    go_enter Try.func9, Try.ntmps9
    go_wp2
    go_loopw [20] (fun c wr => ∃ k : Nat, k ≤ n' ∧ c = .int .i64 k ∧ wr.cell? ⟨w.heap.size, 0, none⟩ = some (.int .i64 (fa k)) ∧ wr.cell? ⟨w.heap.size, 1, none⟩ = some (.int .i64 (fs k)) ∧
        wr.frozen? ⟨w.heap.size, 0, none⟩ = false ∧ wr.frozen? ⟨w.heap.size, 1, none⟩ = false ∧ (∀ q, 1 ≤ q → q ≤ k → fa q ≤ i) ∧ Below w.heap.size w wr ∧ w.heap.size < wr.heap.size)
      (fun c _ => n' + 1 - (intOf c).toNat)
    case atStart => exact ⟨0, Nat.zero_le _, rfl, by simp, by simp, by simp, by simp, fun q _ _ => by omega, (Below.refl _ _).alloc (Nat.le_refl _) _, by simp⟩
    case round =>
      obtain ⟨k, hk, rfl, hc0, hc1, hf0, hf1, hall, hbel, hsz⟩ := hrel
      have HA : Hid (∀ q, 1 ≤ q → q ≤ k → fa q ≤ i) := hall
      clear hall
      obtain ⟨⟨b1, b2⟩, b3, b4⟩ := hb k (by omega)
      by_cases hlt : k < n'
      · obtain ⟨ha, hs⟩ := hp (k + 1) (by omega)
        have ha' : wr.cell? ⟨g, 2 + k * 2, none⟩ = some (.int .i64 (fa (k + 1))) := by
          rw [show 2 + k * 2 = (k + 1) * 2 from by omega]; exact (hbel.cell (by exact hg)).trans ha
        have hs' : wr.cell? ⟨g, 2 + k * 2 + 1, none⟩ = some (.int .i64 (fs (k + 1))) := by
          rw [show 2 + k * 2 = (k + 1) * 2 from by omega]; exact (hbel.cell (by exact hg)).trans hs
        clear ha hs hp
        by_cases hgt : i < fa (k + 1)
        · go_wp2
          go_ret
          have e : j = k := pk_unique hjn H1.out H2.out (by omega) HA.out (fun _ => hgt)
          subst e
          exact ⟨ret_int HV.out.symm, hbel.alloc (by omega) _⟩
        · go_wp2
          go_roundw
          case rel =>
            obtain ⟨q0, q1, q2, q3⟩ := pair_set (.int .i64 (fa (k + 1))) (.int .i64 (fs (k + 1))) (Obj.cells #[Value.int IntKind.i64 (fa (k + 1)), Value.int IntKind.i64 (fs (k + 1))] 32) hc0 hc1 hf0 hf1 hsz
            exact ⟨k + 1, by omega, by go_num, q0, q1, q2, q3, fun q h1 h2 => by
              by_cases e : q = k + 1
              · subst e; omega
              · exact HA.out q h1 (by omega), ((hbel.setCell (Nat.le_refl _) _).setCell (Nat.le_refl _) _).alloc (by simp [World.setCell]; omega) _, by simp [World.setCell]; omega⟩
          case measure => simp [intOf]; omega
      · go_wp2
        go_ret
        obtain rfl : k = n' := by omega
        have e : j = k := pk_unique hjn H1.out H2.out (by omega) HA.out (fun h => by omega)
        subst e
        exact ⟨ret_int HV.out.symm, hbel⟩

end Go.Proofs.Qxb6618333a
