import Derived.Test.Qxb6618393aDoorCallB
namespace Go.Proofs.Qxb6618393aDoor
open Go.RowKit
set_option linter.unusedVariables false

/-- The number that digits spell. -/
def val (l : List UInt8) : Nat := l.foldl (fun a c => a * 10 + (c.toNat - 48)) 0
theorem val_snoc (l : List UInt8) (c : UInt8) : val (l ++ [c]) = val l * 10 + (c.toNat - 48) := by simp [val, List.foldl_append]
theorem digit_toNat (d : Nat) (h : d < 10) : (UInt8.ofNat (48 + d)).toNat = 48 + d := by
  rw [UInt8.toNat_ofNat']; omega
theorem val_dec : ∀ (n u : Nat), u ≤ n → val (Lib.decDigits u) = u := by
  intro n
  induction n with
  | zero =>
    intro u hu
    obtain rfl : u = 0 := by omega
    rw [Lib.decDigits_one (by omega)]; rfl
  | succ n ih =>
    intro u hu
    by_cases h : u < 10
    · rw [Lib.decDigits_one h]
      simp only [val, List.foldl_cons, List.foldl_nil]
      rw [digit_toNat u h]; omega
    · rw [Lib.decDigits, dif_neg h, val_snoc, ih (u / 10) (by omega), digit_toNat _ (by omega)]; omega
theorem dec_inj {u v : Nat} (h : Lib.decDigits u = Lib.decDigits v) : u = v := by
  rw [← val_dec u u (Nat.le_refl _), ← val_dec v v (Nat.le_refl _), h]
theorem dec_low : ∀ (n : Nat), ∀ u, u ≤ n → 1 ≤ u → 10 ^ (Lib.nDigits u - 1) ≤ u := by
  intro n
  induction n with
  | zero => intro u h1 h2; omega
  | succ n ih =>
    intro u hu h1
    by_cases h : u < 10
    · rw [Lib.nDigits_small h]; simpa using h1
    · rw [Lib.nDigits_big h]
      have := ih (u / 10) (by omega) (by omega)
      have hp := Lib.nDigits_pos (u / 10)
      rw [show Lib.nDigits (u / 10) + 1 - 1 = (Lib.nDigits (u / 10) - 1) + 1 from by omega, Nat.pow_succ]
      omega
theorem dec_head {u : Nat} : ∀ c ∈ Lib.decDigits u, 48 ≤ c.toNat ∧ c.toNat ≤ 57 := by
  intro c hc
  rw [Lib.decDigits_eq] at hc
  obtain ⟨t, _, rfl⟩ := List.mem_map.1 hc
  unfold Lib.dg
  rw [digit_toNat _ (Nat.mod_lt _ (by omega))]
  have := Nat.mod_lt (u / 10 ^ (Lib.nDigits u - 1 - t)) (show 0 < 10 by omega)
  omega
theorem itoa_inj {m n : Int} (h : Lib.itoa m = Lib.itoa n) : m = n := by
  unfold Lib.itoa at h
  by_cases c1 : m < 0
  · rw [if_pos c1] at h
    by_cases c2 : n < 0
    · rw [if_pos c2] at h
      have := dec_inj (List.cons.inj h).2
      omega
    · rw [if_neg c2] at h
      have hm : (45 : UInt8) ∈ Lib.decDigits n.toNat := by rw [← h]; exact List.mem_cons_self
      have := (dec_head _ hm).1
      simp at this
  · rw [if_neg c1] at h
    by_cases c2 : n < 0
    · rw [if_pos c2] at h
      have hm : (45 : UInt8) ∈ Lib.decDigits m.toNat := by rw [h]; exact List.mem_cons_self
      have := (dec_head _ hm).1
      simp at this
    · rw [if_neg c2] at h
      have := dec_inj h
      omega

theorem seven {n : Int} (h : 0 ≤ n ∧ n ≤ 6) : n = 0 ∨ n = 1 ∨ n = 2 ∨ n = 3 ∨ n = 4 ∨ n = 5 ∨ n = 6 := by omega
theorem fieldS_inj {f g : Int} (h : fieldS f = fieldS g) : f = g := by
  by_cases cf : 0 ≤ f ∧ f ≤ 6
  · by_cases cg : 0 ≤ g ∧ g ≤ 6
    · rcases seven cf with rfl | rfl | rfl | rfl | rfl | rfl | rfl <;> rcases seven cg with rfl | rfl | rfl | rfl | rfl | rfl | rfl <;> first | rfl | (exfalso; revert h; decide)
    · rw [fieldS_else (n := g) (by omega)] at h
      rcases seven cf with rfl | rfl | rfl | rfl | rfl | rfl | rfl <;> (exfalso; simp [fieldS] at h)
  · rw [fieldS_else (n := f) (by omega)] at h
    by_cases cg : 0 ≤ g ∧ g ≤ 6
    · rcases seven cg with rfl | rfl | rfl | rfl | rfl | rfl | rfl <;> (exfalso; simp [fieldS] at h)
    · rw [fieldS_else (n := g) (by omega)] at h
      have h1 := List.append_cancel_left h
      exact itoa_inj (List.append_cancel_right h1)
theorem eqB (f g : Int) : ((S (fieldS f)).toList == (S (fieldS g)).toList) = (f == g) := by
  unfold S
  rw [ByteArray.toList_mk, ByteArray.toList_mk]
  rw [Bool.eq_iff_iff]
  simp only [beq_iff_eq]
  exact ⟨fun h => fieldS_inj h, fun h => by rw [h]⟩

theorem S_size (l : List UInt8) : (S l).size = l.length := by simp [S, ByteArray.size]
theorem S_get (l : List UInt8) (i : Nat) (h : i < (S l).size) : (S l)[i] = l[i]'(by rw [S_size] at h; exact h) := by
  simp [S, ByteArray.getElem_eq_getElem_data]

/-- Of the seven names each is a word. -/
theorem names (n : Int) (h : 0 ≤ n ∧ n ≤ 6) (w : World) : Calls Tryd.prog 5 #[.string (S (fieldS n))] w fun e w' => e = .returned (.bool true) ∧ w' = w := by
  rcases seven h with rfl | rfl | rfl | rfl | rfl | rfl | rfl
  all_goals exact word_any _ w (by decide) (by decide) (by decide) (by decide) (by decide)

theorem dec_getD (u j : Nat) (h : j < Lib.nDigits u) : (Lib.decDigits u)[j]? = some (Lib.dg u (Lib.nDigits u - 1 - j)) := by
  rw [Lib.decDigits_eq, List.getElem?_map, List.getElem?_range h]; rfl

theorem reads_of (pre : List UInt8) (u : Nat) (hu : u < 10 ^ 19) (hp : pre = [70, 105, 101, 108, 100, 40] ∨ pre = [70, 105, 101, 108, 100, 40, 45]) : Reads (S (pre ++ (Lib.decDigits u ++ [41]))) pre.length (Lib.nDigits u) u := by
  have hnd := Lib.nDigits_pos u
  have hl := Lib.decDigits_length u
  have h19 : Lib.nDigits u ≤ 19 := by
    by_cases h : Lib.nDigits u ≤ 19
    · exact h
    · have h0 : 1 ≤ u := by
        by_cases e : u = 0
        · subst e; rw [Lib.nDigits_small (by omega)] at h; omega
        · omega
      have h1 := dec_low u u (Nat.le_refl _) h0
      have h2 : 10 ^ 19 ≤ 10 ^ (Lib.nDigits u - 1) := Nat.pow_le_pow_right (by omega) (by omega)
      omega
  have hpl : 6 ≤ pre.length ∧ pre.length ≤ 7 := by rcases hp with rfl | rfl <;> simp
  have get : ∀ i (h : i < (S (pre ++ (Lib.decDigits u ++ [41]))).size) (x : UInt8), (pre ++ (Lib.decDigits u ++ [41]))[i]? = some x → ((S (pre ++ (Lib.decDigits u ++ [41])))[i].toNat : Int) = (x.toNat : Int) := by
    intro i h x hx
    rw [S_get _ i h]
    obtain ⟨_, e⟩ := List.getElem?_eq_some_iff.1 hx
    rw [e]
  refine ⟨by rw [S_size]; simp [hl]; omega, hpl.1, hpl.2, hnd, h19, fun i h hi => ?_, fun h => ?_, fun j h hj => ?_, Lib.lt_pow_nDigits u, fun h => ?_⟩
  · have hx : (pre ++ (Lib.decDigits u ++ [41]))[i]? = some (([70, 105, 101, 108, 100, 40] : List UInt8).getD i 0) := by
      rw [List.getElem?_append_left (by omega)]
      rcases hp with rfl | rfl
      all_goals
        match i, hi with
        | 0, _ => rfl
        | 1, _ => rfl
        | 2, _ => rfl
        | 3, _ => rfl
        | 4, _ => rfl
        | 5, _ => rfl
    rw [get i h _ hx]
    match i, hi with
    | 0, _ => rfl
    | 1, _ => rfl
    | 2, _ => rfl
    | 3, _ => rfl
    | 4, _ => rfl
    | 5, _ => rfl
  · have hx : (pre ++ (Lib.decDigits u ++ [41]))[pre.length + Lib.nDigits u]? = some 41 := by
      rw [List.getElem?_append_right (by omega), List.getElem?_append_right (by omega), hl]
      simp
    rw [get _ h _ hx]; rfl
  · have hx : (pre ++ (Lib.decDigits u ++ [41]))[pre.length + j]? = some (Lib.dg u (Lib.nDigits u - 1 - j)) := by
      rw [List.getElem?_append_right (by omega), List.getElem?_append_left (by omega), show pre.length + j - pre.length = j from by omega]
      exact dec_getD u j hj
    rw [get _ h _ hx]
    unfold Lib.dg
    rw [digit_toNat _ (Nat.mod_lt _ (by omega))]
    omega
  · have h0 : 1 ≤ u := by
      by_cases e : u = 0
      · subst e; rw [Lib.nDigits_small (by omega)] at h; omega
      · omega
    exact dec_low u u (Nat.le_refl _) h0

/-- The text of a value that is no field reads back. -/
theorem back (n : Int) (h : n < 0 ∨ 6 < n) (h0 : -9223372036854775808 ≤ n) (h1 : n ≤ 9223372036854775807) (w : World) :
    Calls Tryd.prog 6 #[.string (S (fieldS n)), .int .i64 n] w fun e w' => e = .returned (.bool true) ∧ ∃ q, w' = w.drewN q := by
  rw [fieldS_else h]
  have hp : (10 : Nat) ^ 19 = 10000000000000000000 := by decide
  by_cases c : n < 0
  · have e : Lib.itoa n = 45 :: Lib.decDigits n.natAbs := by unfold Lib.itoa; rw [if_pos c]
    rw [e]
    have R := reads_of [70, 105, 101, 108, 100, 40, 45] n.natAbs (by omega) (.inr rfl)
    refine reads_neg _ (Lib.nDigits n.natAbs) n.natAbs n w R ?_ ?_ (by omega) (by omega) h0
    · rw [S_size]; simp
    · rfl
  · have e : Lib.itoa n = Lib.decDigits n.toNat := by unfold Lib.itoa; rw [if_neg c]
    rw [e]
    exact reads_pos _ (Lib.nDigits n.toNat) n.toNat n w (reads_of [70, 105, 101, 108, 100, 40] n.toNat (by omega) (.inl rfl)) (by omega) h1

end Go.Proofs.Qxb6618393aDoor
