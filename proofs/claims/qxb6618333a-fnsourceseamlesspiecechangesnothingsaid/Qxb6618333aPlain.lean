import Derived.Test.Qxb6618333aCallC
namespace Go.Proofs.Qxb6618333a
open Go.RowKit

/-- The list of numbers with one more, v, put in behind place m. -/
def ins (f : Nat → Int) (m : Nat) (v : Int) (j : Nat) : Int := if j ≤ m then f j else if j = m + 1 then v else f (j - 1)
theorem ins_le {f : Nat → Int} {m : Nat} {v : Int} {j : Nat} (h : j ≤ m) : ins f m v j = f j := by simp [ins, h]
theorem ins_at {f : Nat → Int} {m : Nat} {v : Int} : ins f m v (m + 1) = v := by unfold ins; rw [if_neg (by omega), if_pos rfl]
theorem ins_gt {f : Nat → Int} {m : Nat} {v : Int} {j : Nat} (h : m + 1 ≤ j) : ins f m v (j + 1) = f j := by
  unfold ins; rw [if_neg (by omega), if_neg (by omega)]; rfl

theorem pk_exists (fa : Nat → Int) (n : Nat) (i : Int) (hn : 1 ≤ n) : ∃ j, Pk fa n i j := by
  have key : ∀ d k, k < n → n - 1 - k = d → (∀ q, 1 ≤ q → q ≤ k → fa q ≤ i) → ∃ j, Pk fa n i j := by
    intro d
    induction d with
    | zero => intro k hk hd h; exact ⟨k, hk, h, fun h' => by omega⟩
    | succ d ih =>
      intro k hk hd h
      by_cases g : i < fa (k + 1)
      · exact ⟨k, hk, h, fun _ => g⟩
      · exact ih (k + 1) (by omega) (by omega) (fun q h1 h2 => by
          by_cases e : q = k + 1
          · subst e; omega
          · exact h q h1 (by omega))
  exact key (n - 1) 0 (by omega) (by omega) (fun q h1 h2 => by omega)

/-- The new piece changes nothing at i. -/
theorem pk_ins {fa fs : Nat → Int} {n m j : Nat} {i k mid : Int} (hj : Pk fa n i j) (hm : m < n) (hk : fa m < k) (hk2 : m + 1 < n → k < fa (m + 1)) (hmid : mid = fs m + k - fa m) :
    ∃ j', Pk (ins fa m k) (n + 1) i j' ∧ fs j + i - fa j = ins fs m mid j' + i - ins fa m k j' := by
  obtain ⟨hjn, h1, h2⟩ := hj
  by_cases c1 : j < m
  · refine ⟨j, ⟨by omega, fun q a b => by rw [ins_le (by omega)]; exact h1 q a b, fun _ => by rw [ins_le (by omega)]; exact h2 (by omega)⟩, by rw [ins_le (by omega), ins_le (by omega)]⟩
  · by_cases c2 : j = m
    · subst c2
      by_cases c3 : i < k
      · exact ⟨j, ⟨by omega, fun q a b => by rw [ins_le (by omega)]; exact h1 q a b, fun _ => by rw [ins_at]; exact c3⟩, by rw [ins_le (by omega), ins_le (by omega)]⟩
      · refine ⟨j + 1, ⟨by omega, fun q a b => ?_, fun h => ?_⟩, by rw [ins_at, ins_at]; omega⟩
        · by_cases e : q = j + 1
          · subst e; rw [ins_at]; omega
          · rw [ins_le (by omega)]; exact h1 q a (by omega)
        · rw [ins_gt (by omega)]; exact h2 (by omega)
    · refine ⟨j + 1, ⟨by omega, fun q a b => ?_, fun h => ?_⟩, by rw [ins_gt (by omega), ins_gt (by omega)]⟩
      · by_cases e : q = m + 1
        · subst e; rw [ins_at]; have := h1 (m + 1) (by omega) (by omega); have := hk2 (by omega); omega
        · by_cases e2 : q ≤ m
          · rw [ins_le e2]; exact h1 q a (by omega)
          · obtain ⟨q', rfl⟩ : ∃ q', q = q' + 1 := ⟨q - 1, by omega⟩
            rw [ins_gt (by omega)]; exact h1 q' (by omega) (by omega)
      · rw [ins_gt (by omega)]; exact h2 (by omega)

theorem asc_le {fa : Nat → Int} {n : Nat} (h : ∀ j, j + 1 < n → fa j < fa (j + 1)) : ∀ d q, q + d < n → fa q ≤ fa (q + d) := by
  intro d
  induction d with
  | zero => intro q _; exact Int.le_refl _
  | succ d ih => intro q hq; have := ih q (by omega); have := h (q + d) (by omega); rw [Nat.add_assoc] at this; omega

theorem pk_own {fa : Nat → Int} {n m : Nat} (h : ∀ j, j + 1 < n → fa j < fa (j + 1)) (hm : m < n) : Pk fa n (fa m) m :=
  ⟨hm, fun q _ b => by have := asc_le h (m - q) q (by omega); rwa [show q + (m - q) = m from by omega] at this, fun h' => h m h'⟩
theorem pk_k {fa : Nat → Int} {n m : Nat} {k : Int} (h : ∀ j, j + 1 < n → fa j < fa (j + 1)) (hm : m < n) (hk : fa m < k) (hk2 : m + 1 < n → k < fa (m + 1)) : Pk fa n k m :=
  ⟨hm, fun q a b => by have := (pk_own h hm).2.1 q a b; omega, hk2⟩
theorem pk_k2 {fa : Nat → Int} {n m : Nat} {k : Int} (h : ∀ j, j + 1 < n → fa j < fa (j + 1)) (hm : m < n) (hk : fa m < k) (hk2 : m + 1 < n → k < fa (m + 1)) : Pk (ins fa m k) (n + 1) k (m + 1) :=
  ⟨by omega, fun q a b => by
    by_cases e : q = m + 1
    · subst e; rw [ins_at]; omega
    · rw [ins_le (by omega)]; have := (pk_own h hm).2.1 q a (by omega); omega, fun h' => by rw [ins_gt (by omega)]; exact hk2 (by omega)⟩

/-- A row being filled: the first p cells are laid, the rest is zero. -/
def fillc (g : Nat → Int) (p j : Nat) : Value := if j < p then .int .i64 (g j) else .int .i64 0
theorem fillc_zero (g : Nat → Int) (j : Nat) : fillc g 0 j = .int .i64 0 := by simp [fillc]
theorem fill_start (w : World) (n : Nat) (g : Nat → Int) : (w.alloc (.cells (madeCells #[.int .i64 0] n) 3)).rowIs w.heap.size 3 n (fillc g 0) :=
  (World.rowIs_made w (.int .i64 0) n 3).congr fun i _ => (fillc_zero g i).symm
theorem fill_step {w : World} {B n p : Nat} {g : Nat → Int} {v : Int} (h : w.rowIs B 3 n (fillc g p)) (hv : v = g p) : (w.setCell ⟨B, p, none⟩ (.int .i64 v)).rowIs B 3 n (fillc g (p + 1)) := by
  subst hv
  refine (h.set p (.int .i64 (g p))).congr fun j hj => ?_
  unfold fillc
  by_cases e : j = p
  · subst e; rw [if_pos rfl, if_pos (by omega)]
  · rw [if_neg e]
    by_cases c : j < p
    · rw [if_pos c, if_pos (by omega)]
    · rw [if_neg c, if_neg (by omega)]
theorem fill_cell {w : World} {B n : Nat} {g : Nat → Int} (h : w.rowIs B 3 n (fillc g n)) : ∀ j, j < n → w.cell? ⟨B, j, none⟩ = some (.int .i64 (g j)) := fun j hj => by
  rw [h.cell hj]; simp [fillc, hj]

/-- Two rows that are filled side by side, behind w3. -/
def Fill (w3 wr : World) (n p : Nat) (g h : Nat → Int) : Prop := wr.rowIs w3.heap.size 3 (n + 1) (fillc g p) ∧ wr.rowIs (w3.heap.size + 1) 3 (n + 1) (fillc h p) ∧ Below w3.heap.size w3 wr
theorem Fill.start (w3 : World) (nq n : Nat) (g h : Nat → Int) :
    Fill w3 (((w3.drewN nq).alloc (.cells (madeCells #[.int .i64 0] (n + 1)) 3)).alloc (.cells (madeCells #[.int .i64 0] (n + 1)) 3)) n 0 g h := by
  refine ⟨(fill_start (w3.drewN nq) (n + 1) g).alloc _, ?_, ?_⟩
  · have h2 := fill_start ((w3.drewN nq).alloc (.cells (madeCells #[.int .i64 0] (n + 1)) 3)) (n + 1) h
    have e : ((w3.drewN nq).alloc (.cells (madeCells #[.int .i64 0] (n + 1)) 3)).heap.size = w3.heap.size + 1 := by rw [Deep.nblk_alloc]; rfl
    rw [e] at h2
    exact h2
  · exact ((below_drewN (Below.refl _ _) nq).alloc (by exact Nat.le_refl _) _).alloc (by rw [Deep.nblk_alloc]; exact Nat.le_succ _) _
theorem Fill.step {w3 wr : World} {n p : Nat} {g h : Nat → Int} {u v : Int} (H : Fill w3 wr n p g h) (hu : u = g p) (hv : v = h p) :
    Fill w3 ((wr.setCell ⟨w3.heap.size, p, none⟩ (.int .i64 u)).setCell ⟨w3.heap.size + 1, p, none⟩ (.int .i64 v)) n (p + 1) g h := by
  obtain ⟨h1, h2, h3⟩ := H
  refine ⟨(fill_step h1 hu).setOther (by show w3.heap.size ≠ w3.heap.size + 1; omega) _, fill_step (h2.setOther (by show w3.heap.size + 1 ≠ w3.heap.size; omega) _) hv, ?_⟩
  exact (h3.setCell (Nat.le_refl _) _).setCell (Nat.le_succ _) _
theorem Fill.ready {w3 wr : World} {n p : Nat} {g h : Nat → Int} (H : Fill w3 wr n p g h) {i : Nat} (hi : i < n + 1) :
    wr.cell? ⟨w3.heap.size, i, none⟩ = some (fillc g p i) ∧ wr.cell? ⟨w3.heap.size + 1, i, none⟩ = some (fillc h p i) ∧ wr.frozen? ⟨w3.heap.size, i, none⟩ = false ∧ wr.frozen? ⟨w3.heap.size + 1, i, none⟩ = false :=
  ⟨H.1.cell hi, H.2.1.cell hi, H.1.frozen i, H.2.1.frozen i⟩

theorem old_bounds {fa fs : Nat → Int} {n : Nat} (h0 : ∀ j, j < n → 0 ≤ fa j ∧ fa j ≤ 1152921504606846975) (h1 : ∀ j, j < n → 0 ≤ fs j ∧ fs j ≤ 1152921504606846975) :
    ∀ j, j < n → (0 ≤ fa j ∧ fa j ≤ 1152921504606846975) ∧ (0 ≤ fs j ∧ fs j ≤ 2305843009213693951) := fun j hj => ⟨h0 j hj, by have := h1 j hj; omega⟩
theorem ins_bounds {fa fs : Nat → Int} {n m : Nat} {k mid : Int} (h0 : ∀ j, j < n → 0 ≤ fa j ∧ fa j ≤ 1152921504606846975) (h1 : ∀ j, j < n → 0 ≤ fs j ∧ fs j ≤ 1152921504606846975) (hm : m < n)
    (hk : 0 ≤ k ∧ k ≤ 1152921504606846975) (hmid : 0 ≤ mid ∧ mid ≤ 2305843009213693951) :
    ∀ j, j < n + 1 → (0 ≤ ins fa m k j ∧ ins fa m k j ≤ 1152921504606846975) ∧ (0 ≤ ins fs m mid j ∧ ins fs m mid j ≤ 2305843009213693951) := fun j hj => by
  by_cases c : j ≤ m
  · rw [ins_le c, ins_le c]; exact old_bounds h0 h1 j (by omega)
  · by_cases c2 : j = m + 1
    · subst c2; rw [ins_at, ins_at]; exact ⟨hk, hmid⟩
    · obtain ⟨j', rfl⟩ : ∃ j', j = j' + 1 := ⟨j - 1, by omega⟩
      rw [ins_gt (by omega), ins_gt (by omega)]; exact old_bounds h0 h1 j' (by omega)
theorem answers {fa fs : Nat → Int} {n m : Nat} {i k mid : Int} (hn : 1 ≤ n) (hm : m < n) (hk : fa m < k) (hk2 : m + 1 < n → k < fa (m + 1)) (hmid : mid = fs m + k - fa m) :
    ∃ V, (∃ j, Pk fa n i j ∧ V = fs j + i - fa j) ∧ (∃ j, Pk (ins fa m k) (n + 1) i j ∧ V = ins fs m mid j + i - ins fa m k j) := by
  obtain ⟨j, hj⟩ := pk_exists fa n i hn
  obtain ⟨j', hj', e⟩ := pk_ins (fs := fs) hj hm hk hk2 hmid
  exact ⟨_, ⟨j, hj, rfl⟩, j', hj', e⟩

theorem PJ.mono {w w' : World} {jb g n : Nat} {fa fs : Nat → Int} (h : PJ w jb g n fa fs) (hb : Below w.heap.size w w') : PJ w' jb g n fa fs := by
  obtain ⟨h1, h2, h3, h4⟩ := h
  exact ⟨(hb.cell h3).trans h1, Nat.lt_of_lt_of_le h2 hb.size, Nat.lt_of_lt_of_le h3 hb.size, fun j hj => ⟨(hb.cell h2).trans (h4 j hj).1, (hb.cell h2).trans (h4 j hj).2⟩⟩

/-- Source, called in a world behind w5. -/
theorem source_at {w5 wx : World} {jb g n : Nat} {fa fs : Nat → Int} {i v : Int} (hn : n ≤ 65537) (h : PJ w5 jb g n fa fs) (hi : 0 ≤ i ∧ i ≤ 1152921504606846975)
    (hb : ∀ j, j < n → (0 ≤ fa j ∧ fa j ≤ 1152921504606846975) ∧ (0 ≤ fs j ∧ fs j ≤ 2305843009213693951)) (hv : ∃ j, Pk fa n i j ∧ v = fs j + i - fa j) (hbel : Below w5.heap.size w5 wx) :
    Calls Try.prog 9 #[.pointer (some ⟨jb, 0, none⟩), .int .i64 i] wx fun e w' => e = .returned (.int .i64 v) ∧ Below w5.heap.size w5 w' := by
  obtain ⟨j, hj, hv⟩ := hv
  refine (source_any jb g n fa fs i v wx hn (h.mono hbel) j hj hi hb hv).mono ?_
  rintro e w' ⟨he, hb'⟩
  exact ⟨he, hbel.trans (hb'.mono hbel.size)⟩

end Go.Proofs.Qxb6618333a
