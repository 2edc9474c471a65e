import Derived.Test.Qxb6618393aDoorShelf
import Derived.WalkKit
import Derived.WalkLawsBesides
import Derived.WalkSpells
import Derived.Deep.QuietTactic
import Derived.BigQuiet
import Derived.Lib.LaidTab
namespace Go.Proofs.Qxb6618393aDoor
open Go.RowKit
set_option linter.unusedVariables false

theorem ret_bool {a b : Bool} (h : a = b) : Ending.returned (.bool a) = .returned (.bool b) := by rw [h]
theorem ret_str {a b : ByteArray} (h : a = b) : Ending.returned (.string a) = .returned (.string b) := by rw [h]

/-- The world's table of powers of ten. -/
def Tab (w : World) : Prop := Lib.TabIs Tryd.prog w powName .u64 Lib.pow10Tab
theorem Tab.mono {w w' : World} (h : Tab w) (hb : Below w.heap.size w w') : Tab w' := by
  unfold Tab Lib.TabIs at *
  unfold World.var? at *
  cases hg : Tryd.prog.globalNamed powName with
  | none => rw [hg] at h; simp at h
  | some g =>
    rw [hg] at h
    simp only [Option.bind_some] at h ⊢
    by_cases hlt : g < w.heap.size
    · rw [hb.block g hlt]; exact h
    · rw [Array.getElem?_eq_none (by omega)] at h; simp at h

/-- What a Field's String answers. -/
def fieldS (n : Int) : List UInt8 :=
  if n = 0 then [115, 101, 99, 111, 110, 100] else if n = 1 then [109, 105, 110, 117, 116, 101] else if n = 2 then [104, 111, 117, 114] else if n = 3 then [100, 97, 121, 45, 111, 102, 45, 109, 111, 110, 116, 104]
  else if n = 4 then [109, 111, 110, 116, 104] else if n = 5 then [100, 97, 121, 45, 111, 102, 45, 119, 101, 101, 107] else if n = 6 then [121, 101, 97, 114] else [70, 105, 101, 108, 100, 40] ++ (Lib.itoa n ++ [41])
def S (l : List UInt8) : ByteArray := ⟨l.toArray⟩
theorem fieldS_else {n : Int} (h : n < 0 ∨ 6 < n) : fieldS n = [70, 105, 101, 108, 100, 40] ++ (Lib.itoa n ++ [41]) := by
  unfold fieldS
  rw [if_neg (by omega), if_neg (by omega), if_neg (by omega), if_neg (by omega), if_neg (by omega), if_neg (by omega), if_neg (by omega)]

theorem str_eq (l : List UInt8) : (({ data := #[70, 105, 101, 108, 100, 40] } : ByteArray) ++ { data := l.toArray } ++ { data := #[41] }) = S ([70, 105, 101, 108, 100, 40] ++ (l ++ [41])) := by
  apply ByteArray.ext
  simp [S]

theorem grow_below (w : World) (k : Nat) (os : Array Obj) : Below w.heap.size w (Sort.grow (w.drewN k) os) := by
  refine ⟨rfl, rfl, rfl, ?_, fun i hi => ?_⟩
  · rw [Sort.size_grow]; exact Nat.le_add_right _ _
  · rw [Sort.heap_grow_old _ _ (by exact hi)]; rfl

set_option maxHeartbeats 400000 in
theorem string_any (n : Int) (h0 : -9223372036854775808 ≤ n) (h1 : n ≤ 9223372036854775807) (w : World) (ht : Tab w) :
    Calls Tryd.prog 4 #[.int .i64 n] w fun e w' => e = .returned (.string (S (fieldS n))) ∧ Below w.heap.size w w' := by
  have HT : Hid (Tab w) := ht
  clear ht
  by_cases e0 : n = 0
  · subst e0
    go_enter Tryd.func4, Tryd.ntmps4
    go_wp2
    go_ret
    exact ⟨rfl, Below.refl _ _⟩
  by_cases e1 : n = 1
  · subst e1
    go_enter Tryd.func4, Tryd.ntmps4
    go_wp2
    go_ret
    exact ⟨rfl, Below.refl _ _⟩
  by_cases e2 : n = 2
  · subst e2
    go_enter Tryd.func4, Tryd.ntmps4
    go_wp2
    go_ret
    exact ⟨rfl, Below.refl _ _⟩
  by_cases e3 : n = 3
  · subst e3
    go_enter Tryd.func4, Tryd.ntmps4
    go_wp2
    go_ret
    exact ⟨rfl, Below.refl _ _⟩
  by_cases e4 : n = 4
  · subst e4
    go_enter Tryd.func4, Tryd.ntmps4
    go_wp2
    go_ret
    exact ⟨rfl, Below.refl _ _⟩
  by_cases e5 : n = 5
  · subst e5
    go_enter Tryd.func4, Tryd.ntmps4
    go_wp2
    go_ret
    exact ⟨rfl, Below.refl _ _⟩
  by_cases e6 : n = 6
  · subst e6
    go_enter Tryd.func4, Tryd.ntmps4
    go_wp2
    go_ret
    exact ⟨rfl, Below.refl _ _⟩
  have f0 : (n == 0) = false := by simpa using e0
  have f1 : (n == 1) = false := by simpa using e1
  have f2 : (n == 2) = false := by simpa using e2
  have f3 : (n == 3) = false := by simpa using e3
  have f4 : (n == 4) = false := by simpa using e4
  have f5 : (n == 5) = false := by simpa using e5
  have f6 : (n == 6) = false := by simpa using e6
  have HN : Hid (n < 0 ∨ 6 < n) := by show n < 0 ∨ 6 < n; omega
  have hlen := Lib.itoa_length_le n h0 h1
  clear e0 e1 e2 e3 e4 e5 e6
  obtain ⟨l, hl⟩ : ∃ l, l = Lib.itoa n := ⟨_, rfl⟩
  rw [← hl] at hlen
  have HL : Hid (l = Lib.itoa n) := hl
  clear hl
  go_enter Tryd.func4, Tryd.ntmps4
  go_wp2_with fail
  refine (itoa_any n h0 h1 w HT.out).mono ?_
  rintro e w1 ⟨rfl, k, os, hw1⟩
  have hb : Below w.heap.size w w1 := by rw [hw1]; exact grow_below w k os
  clear hw1
  rw [← HL.out]
  go_wp2
  go_ret
  exact ⟨ret_str (by rw [fieldS_else HN.out, ← HL.out]; exact str_eq l), hb⟩

/-- A lower-case letter. -/
def lowB (c : Int) : Bool := decide (97 ≤ c ∧ c ≤ 122)
set_option maxHeartbeats 400000 in
theorem lower_any (c : Int) (w : World) : Calls Tryd.prog 8 #[.int .u8 c] w fun e w' => e = .returned (.bool (lowB c)) ∧ w' = w := by
  by_cases h1 : 97 ≤ c
  · by_cases h2 : c ≤ 122
    · go_enter Tryd.func8, Tryd.ntmps8
      go_wp2
      go_ret
      exact ⟨ret_bool (by simp [lowB, h1, h2]), rfl⟩
    · go_enter Tryd.func8, Tryd.ntmps8
      go_wp2
      go_ret
      exact ⟨ret_bool (by simp [lowB, h1, h2]), rfl⟩
  · go_enter Tryd.func8, Tryd.ntmps8
    go_wp2
    go_ret
    exact ⟨ret_bool (by simp [lowB]; omega), rfl⟩

set_option maxHeartbeats 1000000 in
/-- A word of lower-case letters with single hyphens between letters. -/
theorem word_any (s : ByteArray) (w : World) (hs0 : 0 < s.size) (hs : s.size ≤ 64) (hf : lowB (s[0].toNat : Int) = true) (hl : lowB ((s[s.size - 1]'(by omega)).toNat : Int) = true)
    (hw : ∀ k (h : k < s.size), (((s[k].toNat : Int) == 45) = true ∧ ∀ h' : k + 1 < s.size, (((s[k + 1]'h').toNat : Int) == 45) = false) ∨ (((s[k].toNat : Int) == 45) = false ∧ lowB (s[k].toNat : Int) = true)) :
    Calls Tryd.prog 5 #[.string s] w fun e w' => e = .returned (.bool true) ∧ w' = w := by
  have g0 : ((s.size : Int) == 0) = false := beq_eq_false_iff_ne.mpr (by omega)
  have g1 : ¬ (64 : Int) < (s.size : Int) := by omega
  have HW : Hid (∀ k (h : k < s.size), (((s[k].toNat : Int) == 45) = true ∧ ∀ h' : k + 1 < s.size, (((s[k + 1]'h').toNat : Int) == 45) = false) ∨ (((s[k].toNat : Int) == 45) = false ∧ lowB (s[k].toNat : Int) = true)) := hw
  clear hw
  have HF : Hid (lowB (s[0].toNat : Int) = true) := hf
  have HL : Hid (lowB ((s[s.size - 1]'(by omega)).toNat : Int) = true) := hl
  clear hf hl
  go_enter Tryd.func5, Tryd.ntmps5
  go_wp2_with fail
  refine (lower_any _ w).mono ?_
  rintro e w1 ⟨rfl, hw1⟩
  rw [hw1, HF.out]
  clear hw1 w1
  go_wp2_with fail
  refine (lower_any _ w).mono ?_
  rintro e w1 ⟨rfl, hw1⟩
  rw [hw1, HL.out]
  clear hw1 w1
  go_wp2_with fail
  go_loop [4] (fun i => ∃ k : Nat, k ≤ s.size ∧ i = .int .i64 k) (fun i => s.size - (intOf i).toNat)
  case atStart => exact ⟨0, Nat.zero_le _, rfl⟩
  case round =>
    obtain ⟨k, hk, rfl⟩ := hrel
    by_cases hlt : k < s.size
    · have hlt' : (k : Int) < (s.size : Int) := by omega
      rcases HW.out k hlt with ⟨h1, h2⟩ | ⟨h1, h2⟩
      · by_cases hn : k + 1 < s.size
        · have hn' : (k : Int) + 1 < (s.size : Int) := by omega
          have h3 := h2 hn
          clear h2
          go_wp2_with fail
          go_round
          case rel => exact ⟨k + 1, by omega, by go_num⟩
          case measure => simp [intOf]; omega
        · have hn' : ¬ (k : Int) + 1 < (s.size : Int) := by omega
          clear h2
          go_wp2_with fail
          go_round
          case rel => exact ⟨k + 1, by omega, by go_num⟩
          case measure => simp [intOf]; omega
      · have HH : Hid (lowB (s[k].toNat : Int) = true) := h2
        clear h2
        go_wp2_with fail
        refine (lower_any _ w).mono ?_
        rintro e w1 ⟨rfl, hw1⟩
        rw [hw1, HH.out]
        clear hw1 w1
        go_wp2_with fail
        go_round
        case rel => exact ⟨k + 1, by omega, by go_num⟩
        case measure => simp [intOf]; omega
    · go_wp2_with fail
      go_ret
      exact ⟨rfl, rfl⟩

end Go.Proofs.Qxb6618393aDoor
