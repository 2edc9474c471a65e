import Derived.Test.Qxb6618393aDoorPlain
namespace Go.Proofs.Qxb6618393aDoor
open Go.RowKit
set_option linter.unusedVariables false
set_option maxRecDepth 100000

/-- How many of the first k fields are f. -/
def cnt (f : Int) (k : Nat) : Int := if 0 ≤ f ∧ f < k then 1 else 0
theorem cnt_bd (f : Int) (k : Nat) : 0 ≤ cnt f k ∧ cnt f k ≤ 1 := by unfold cnt; split <;> omega
theorem cnt_hit (f : Int) (k : Nat) (h : (k : Int) = f) : cnt f (k + 1) = cnt f k + 1 := by
  unfold cnt; rw [if_pos (by omega), if_neg (by omega)]; rfl
theorem cnt_miss (f : Int) (k : Nat) (h : (k : Int) ≠ f) : cnt f (k + 1) = cnt f k := by
  unfold cnt
  by_cases c : 0 ≤ f ∧ f < k
  · rw [if_pos (by omega), if_pos c]
  · rw [if_neg (by omega), if_neg c]
theorem cnt_in (f : Int) (h : 0 ≤ f ∧ f ≤ 6) : cnt f 7 = 1 := by unfold cnt; rw [if_pos (by omega)]
theorem cnt_out (f : Int) (h : f < 0 ∨ 6 < f) : cnt f 7 = 0 := by unfold cnt; rw [if_neg (by omega)]

set_option maxHeartbeats 2000000 in
theorem walk (f g : Int) (w : World) (hf0 : -9223372036854775808 ≤ f) (hf1 : f ≤ 9223372036854775807) (hg0 : -9223372036854775808 ≤ g) (hg1 : g ≤ 9223372036854775807) (ht : Tab w) :
    Calls Tryd.prog 3 #[.int .i64 f, .int .i64 g] w fun e w' => e = .returned (.bool true) ∧ Below w.heap.size w w' := by
  have HT : Hid (Tab w) := ht
  clear ht
  go_enter Tryd.func3, Tryd.ntmps3
  go_wp2_with fail
  refine (string_any f hf0 hf1 w HT.out).mono ?_
  rintro e w1 ⟨rfl, hb1⟩
  go_wp2_with fail
  refine (string_any g hg0 hg1 w1 (HT.out.mono hb1)).mono ?_
  rintro e w2 ⟨rfl, hb2⟩
  have hb : Below w.heap.size w w2 := hb1.trans (hb2.mono hb1.size)
  clear hb1 hb2
  have hE := eqB f g
  cases hfg : (f == g)
  all_goals
    rw [hfg] at hE
    go_wp2_with fail
    go_loopw [8, 9] (fun c i wr => ∃ k : Nat, k ≤ 7 ∧ i = .int .i64 k ∧ c = .int .i64 (cnt f k) ∧ Below w.heap.size w wr) (fun _ i _ => 7 - (intOf i).toNat)
    case atStart => exact ⟨0, Nat.zero_le _, rfl, by rw [show cnt f 0 = 0 from by unfold cnt; rw [if_neg (by omega)]], hb⟩
    case round =>
      obtain ⟨k, hk, rfl, rfl, hbr⟩ := hrel
      obtain ⟨c0, c1⟩ := cnt_bd f k
      by_cases hlt : k < 7
      · have hlt' : (k : Int) < 7 := by omega
        go_wp2_with fail
        refine (string_any (k : Int) (by omega) (by omega) wr (HT.out.mono hbr)).mono ?_
        rintro e w3 ⟨rfl, hb3⟩
        have hb4 : Below w.heap.size w w3 := hbr.trans (hb3.mono hbr.size)
        clear hb3
        have hK := eqB (k : Int) f
        by_cases hkf : (k : Int) = f
        · have HC : Hid (cnt f (k + 1) = cnt f k + 1) := cnt_hit f k hkf
          rw [show ((k : Int) == f) = true from by simpa using hkf] at hK
          clear hkf
          go_wp2_with fail
          go_roundw
          case rel => exact ⟨k + 1, by omega, by go_num, by rw [HC.out], hb4⟩
          case measure => simp [intOf]; omega
        · have HC : Hid (cnt f (k + 1) = cnt f k) := cnt_miss f k hkf
          rw [show ((k : Int) == f) = false from by simpa using hkf] at hK
          clear hkf
          go_wp2_with fail
          go_roundw
          case rel => exact ⟨k + 1, by omega, by go_num, by rw [HC.out], hb4⟩
          case measure => simp [intOf]; omega
      · have hlt' : ¬ (k : Int) < 7 := by omega
        obtain rfl : k = 7 := by omega
        by_cases hin : 0 ≤ f ∧ f ≤ 6
        · have hc := cnt_in f hin
          obtain ⟨i0, i1⟩ := hin
          rw [hc]
          clear hc c0 c1
          go_wp2_with fail
          refine (names f ⟨i0, i1⟩ wr).mono ?_
          rintro e w3 ⟨rfl, hw3⟩
          rw [hw3]
          clear hw3 w3
          go_wp2_with fail
          go_ret
          exact ⟨rfl, hbr⟩
        · have hout : f < 0 ∨ 6 < f := by omega
          have hc := cnt_out f hout
          rw [hc]
          clear hc c0 c1 hin
          have HO : Hid (f < 0 ∨ 6 < f) := hout
          rcases hout with ho | ho
          all_goals
            go_wp2_with fail
            refine (back f HO.out hf0 hf1 wr).mono ?_
            rintro e w3 ⟨rfl, q, hw3⟩
            rw [hw3]
            clear hw3 w3
            go_wp2_with fail
            go_ret
            exact ⟨rfl, below_drewN hbr _⟩

end Go.Proofs.Qxb6618393aDoor
