import Derived.Test.Qxb6618393aDoorCallA
namespace Go.Proofs.Qxb6618393aDoor
open Go.RowKit
set_option linter.unusedVariables false
set_option maxRecDepth 100000

/-- What stands of a text that reads back: its head, its last byte, its digits from place p on. -/
structure Reads (s : ByteArray) (p nd u : Nat) : Prop where
  size : s.size = p + nd + 1
  p6 : 6 ≤ p
  p7 : p ≤ 7
  nd1 : 1 ≤ nd
  nd19 : nd ≤ 19
  head : ∀ i (h : i < s.size), i < 6 → (s[i].toNat : Int) = ([70, 105, 101, 108, 100, 40] : List Int).getD i 0
  last : ∀ (h : p + nd < s.size), (s[p + nd].toNat : Int) = 41
  digit : ∀ j (h : p + j < s.size), j < nd → (s[p + j].toNat : Int) = 48 + (u / 10 ^ (nd - 1 - j) % 10 : Nat)
  small : u < 10 ^ nd
  lead : 1 < nd → 10 ^ (nd - 1) ≤ u


theorem Reads.headNe {s : ByteArray} {p nd u : Nat} (R : Reads s p nd u) (k : Nat) (hk : k < 6) (h : k < s.size) : (((s[k]'h).toNat : Int) != (((⟨#[70, 105, 101, 108, 100, 40]⟩ : ByteArray)[k]'hk).toNat : Int)) = false := by
  rw [R.head k h hk]
  match k, hk with
  | 0, _ => rfl
  | 1, _ => rfl
  | 2, _ => rfl
  | 3, _ => rfl
  | 4, _ => rfl
  | 5, _ => rfl
theorem Reads.lastNe {s : ByteArray} {p nd u : Nat} (R : Reads s p nd u) (h : s.size - 1 < s.size) : (((s[s.size - 1]'h).toNat : Int) != 41) = false := by
  have e : s.size - 1 = p + nd := by have := R.size; omega
  have h' : p + nd < s.size := by omega
  have : (s[s.size - 1]'h) = s[p + nd]'h' := by congr 1
  rw [this, R.last h']; rfl
theorem Reads.dig {s : ByteArray} {p nd u : Nat} (R : Reads s p nd u) (k : Nat) (h : k < s.size) (h1 : p ≤ k) (h2 : k < p + nd) : ((s[k]'h).toNat : Int) = 48 + (u / 10 ^ (p + nd - 1 - k) % 10 : Nat) := by
  obtain ⟨j, rfl⟩ : ∃ j, k = p + j := ⟨k - p, by omega⟩
  rw [R.digit j h (by omega), show p + nd - 1 - (p + j) = nd - 1 - j from by omega]
theorem Reads.digBd {s : ByteArray} {p nd u : Nat} (R : Reads s p nd u) (k : Nat) (h : k < s.size) (h1 : p ≤ k) (h2 : k < p + nd) : 48 ≤ ((s[k]'h).toNat : Int) ∧ ((s[k]'h).toNat : Int) ≤ 57 := by
  rw [R.dig k h h1 h2]; omega
/-- The number that the digits ahead of place k spell. -/
theorem Reads.next {s : ByteArray} {p nd u : Nat} (R : Reads s p nd u) (k : Nat) (h : k < s.size) (h1 : p ≤ k) (h2 : k < p + nd) {a : Int} (ha : a = (u / 10 ^ (p + nd - k) : Nat)) :
    a * 10 + (((s[k]'h).toNat : Int) - 48) = (u / 10 ^ (p + nd - (k + 1)) : Nat) := by
  rw [R.dig k h h1 h2, ha]
  have e : p + nd - k = (p + nd - 1 - k) + 1 := by omega
  have e2 : p + nd - (k + 1) = p + nd - 1 - k := by omega
  rw [e, e2, Nat.pow_succ, ← Nat.div_div_eq_div_mul]
  omega
theorem Reads.bd {s : ByteArray} {p nd u : Nat} (R : Reads s p nd u) (k : Nat) (h1 : p ≤ k) (h2 : k < p + nd) {a : Int} (ha : a = (u / 10 ^ (p + nd - k) : Nat)) : 0 ≤ a ∧ a ≤ 999999999999999999 := by
  have hs := R.small
  have h19 := R.nd19
  have hp : u < 10 ^ 19 := Nat.lt_of_lt_of_le hs (Nat.pow_le_pow_right (by omega) h19)
  have e : p + nd - k = (p + nd - 1 - k) + 1 := by omega
  have h3 : u / 10 ^ (p + nd - k) ≤ u / 10 := by
    rw [e, Nat.pow_succ, Nat.mul_comm, ← Nat.div_div_eq_div_mul]; exact Nat.div_le_self _ _
  have h4 : (10 : Nat) ^ 19 = 10000000000000000000 := by decide
  obtain ⟨x, hx⟩ : ∃ x, x = u / 10 ^ (p + nd - k) := ⟨_, rfl⟩
  rw [← hx] at h3 ha
  omega
theorem Reads.zero {s : ByteArray} {p nd u : Nat} (R : Reads s p nd u) {a : Int} (h : a = (u / 10 ^ (p + nd - p) : Nat)) : a = 0 := by
  have := R.small
  rw [h, show p + nd - p = nd from by omega, Nat.div_eq_of_lt this]; rfl
theorem Reads.atStart {s : ByteArray} {p nd u : Nat} (R : Reads s p nd u) : (0 : Int) = (u / 10 ^ (p + nd - p) : Nat) := by
  have := R.small
  rw [show p + nd - p = nd from by omega, Nat.div_eq_of_lt this]; rfl
theorem Reads.leadNe {s : ByteArray} {p nd u : Nat} (R : Reads s p nd u) (h : p < s.size) (hn : 1 < nd) : (((s[p]'h).toNat : Int) == 48) = false := by
  rw [R.dig p h (Nat.le_refl _) (by omega)]
  have h1 := R.lead hn
  have h2 := R.small
  have hq : 0 < 10 ^ (nd - 1) := Nat.pow_pos (by omega)
  have e : (10 : Nat) ^ nd = 10 ^ (nd - 1) * 10 := by rw [← Nat.pow_succ, show (nd - 1).succ = nd from by omega]
  have h3 : 1 ≤ u / 10 ^ (nd - 1) := (Nat.one_le_div_iff hq).2 h1
  have h4 : u / 10 ^ (nd - 1) < 10 := Nat.div_lt_of_lt_mul (by rw [← e]; exact h2)
  rw [show p + nd - 1 - p = nd - 1 from by omega]
  refine beq_eq_false_iff_ne.mpr ?_
  omega

set_option maxHeartbeats 2000000 in
theorem reads_pos (s : ByteArray) (nd u : Nat) (v : Int) (w : World) (R : Reads s 6 nd u) (hv : v = (u : Int)) (hv1 : v ≤ 9223372036854775807) :
    Calls Tryd.prog 6 #[.string s, .int .i64 v] w fun e w' => e = .returned (.bool true) ∧ ∃ q, w' = w.drewN q := by
  have HSZ : Hid (s.size = 6 + nd + 1) := R.size
  have hn1 := R.nd1
  have hn19 := R.nd19
  have hz1 : 6 + nd + 1 ≤ s.size := by have := R.size; omega
  have hz2 : s.size ≤ 6 + nd + 1 := by have := R.size; omega
  have HR : Hid (Reads s 6 nd u) := R
  clear R
  have HV : Hid (v = (u : Int)) := hv
  clear hv
  have b0 : ¬ ((s.size : Int) < 8) := by omega
  go_enter Tryd.func6, Tryd.ntmps6
  go_wp2_with fail
  go_loopw [6] (fun i wr => ∃ k q : Nat, k ≤ 6 ∧ i = .int .i64 k ∧ wr = w.drewN q) (fun i _ => 6 - (intOf i).toNat)
  case atStart => exact ⟨0, 0, Nat.zero_le _, rfl, rfl⟩
  case round =>
    obtain ⟨k, q, hk, rfl, hw⟩ := hrel
    have HW : Hid (wr = w.drewN q) := hw
    clear hw
    by_cases hlt : k < 6
    · have hlt' : (k : Int) < 6 := by omega
      have hls : k < s.size := by omega
      have hls' : (k : Int) < (s.size : Int) := by omega
      have hh := HR.out.headNe k hlt hls
      go_wp2_with fail
      go_quiet (fail)
      go_wp2_with fail
      go_roundw
      case rel => exact ⟨k + 1, q + nq, by omega, by go_num, by rw [HW.out, World.drewN_drewN]⟩
      case measure => simp [intOf]; omega
    · have hlt' : ¬ (k : Int) < 6 := by omega
      have hl1 : s.size - 1 < s.size := by omega
      have hlast := HR.out.lastNe hl1
      have d1 : ¬ ((s.size : Int) - 1 - 6 < 1) := by omega
      have d2 : ¬ ((19 : Int) < (s.size : Int) - 1 - 6) := by omega
      have hp6 : (6 : Int) < (s.size : Int) := by omega
      have hp : ((s[6].toNat : Int) == 45) = false := beq_eq_false_iff_ne.mpr (by have := HR.out.digBd 6 (by omega) (by omega) (by omega); omega)
      clear hlt hk
      by_cases hnd : 1 < nd
      all_goals
        first
          | (have hz0 := HR.out.leadNe (by omega) hnd
             have d3 : (1 : Int) < (s.size : Int) - 1 - 6 := by omega
             go_wp2_with fail)
          | (have d3 : ¬ ((1 : Int) < (s.size : Int) - 1 - 6) := by omega
             go_wp2_with fail)
        go_loop [7, 11, 12] (fun i m c => ∃ (k : Nat) (a : Int), 6 ≤ k ∧ k ≤ 6 + nd ∧ i = .int .i64 k ∧ m = .int .u64 a ∧ a = (u / 10 ^ (6 + nd - k) : Nat)) (fun i _ _ => s.size - (intOf i).toNat)
        case atStart => exact ⟨6, 0, Nat.le_refl _, by omega, rfl, rfl, HR.out.atStart⟩
        case round =>
          obtain ⟨k, a, hk1, hk2, rfl, rfl, ha⟩ := hrel
          have HA : Hid (a = (u / 10 ^ (6 + nd - k) : Nat)) := ha
          clear ha
          by_cases hlt : k < 6 + nd
          · have hls : k < s.size := by omega
            have hle : (k : Int) < (s.size : Int) - 1 := by omega
            have hls' : (k : Int) < (s.size : Int) := by omega
            obtain ⟨g1, g2⟩ := HR.out.digBd k hls hk1 hlt
            obtain ⟨a1, a2⟩ := HR.out.bd k hk1 hlt HA.out
            have HN : Hid (a * 10 + ((s[k].toNat : Int) - 48) = (u / 10 ^ (6 + nd - (k + 1)) : Nat)) := HR.out.next k hls hk1 hlt HA.out
            go_wp2_with fail
            go_round
            case rel => exact ⟨k + 1, _, by omega, by omega, by go_num, rfl, HN.out⟩
            case measure => simp [intOf]; omega
          · have hle : ¬ (k : Int) < (s.size : Int) - 1 := by omega
            obtain rfl : k = 6 + nd := by omega
            have hau : a = (u : Int) := by rw [HA.out, Nat.sub_self]; simp
            clear HA
            have hv0 : 0 ≤ v := by have := HV.out; omega
            have hav : (a == v) = true := by rw [hau, HV.out]; simp
            clear hau
            go_wp2_with fail
            go_ret
            exact ⟨rfl, q, HW.out⟩

set_option maxHeartbeats 2000000 in
theorem reads_neg (s : ByteArray) (nd u : Nat) (v : Int) (w : World) (R : Reads s 7 nd u) (h6 : 6 < s.size) (hm : ((s[6].toNat : Int) == 45) = true) (hv : v = -(u : Int)) (hu : 1 ≤ u) (hv1 : -9223372036854775808 ≤ v) :
    Calls Tryd.prog 6 #[.string s, .int .i64 v] w fun e w' => e = .returned (.bool true) ∧ ∃ q, w' = w.drewN q := by
  have HSZ : Hid (s.size = 7 + nd + 1) := R.size
  have hn1 := R.nd1
  have hn19 := R.nd19
  have hz1 : 7 + nd + 1 ≤ s.size := by have := R.size; omega
  have hz2 : s.size ≤ 7 + nd + 1 := by have := R.size; omega
  have HR : Hid (Reads s 7 nd u) := R
  clear R
  have HV : Hid (v = -(u : Int)) := hv
  clear hv
  have b0 : ¬ ((s.size : Int) < 8) := by omega
  go_enter Tryd.func6, Tryd.ntmps6
  go_wp2_with fail
  go_loopw [6] (fun i wr => ∃ k q : Nat, k ≤ 6 ∧ i = .int .i64 k ∧ wr = w.drewN q) (fun i _ => 6 - (intOf i).toNat)
  case atStart => exact ⟨0, 0, Nat.zero_le _, rfl, rfl⟩
  case round =>
    obtain ⟨k, q, hk, rfl, hw⟩ := hrel
    have HW : Hid (wr = w.drewN q) := hw
    clear hw
    by_cases hlt : k < 6
    · have hlt' : (k : Int) < 6 := by omega
      have hls : k < s.size := by omega
      have hls' : (k : Int) < (s.size : Int) := by omega
      have hh := HR.out.headNe k hlt hls
      go_wp2_with fail
      go_quiet (fail)
      go_wp2_with fail
      go_roundw
      case rel => exact ⟨k + 1, q + nq, by omega, by go_num, by rw [HW.out, World.drewN_drewN]⟩
      case measure => simp [intOf]; omega
    · have hlt' : ¬ (k : Int) < 6 := by omega
      have hl1 : s.size - 1 < s.size := by omega
      have hlast := HR.out.lastNe hl1
      have d1 : ¬ ((s.size : Int) - 1 - 7 < 1) := by omega
      have d2 : ¬ ((19 : Int) < (s.size : Int) - 1 - 7) := by omega
      have hp6 : (6 : Int) < (s.size : Int) := by omega
      have hp : ((s[6].toNat : Int) == 45) = true := hm
      clear hlt hk
      by_cases hnd : 1 < nd
      all_goals
        first
          | (have hz0 := HR.out.leadNe (by omega) hnd
             have d3 : (1 : Int) < (s.size : Int) - 1 - 7 := by omega
             go_wp2_with fail)
          | (have d3 : ¬ ((1 : Int) < (s.size : Int) - 1 - 7) := by omega
             go_wp2_with fail)
        go_loop [7, 11, 12] (fun i m c => ∃ (k : Nat) (a : Int), 7 ≤ k ∧ k ≤ 7 + nd ∧ i = .int .i64 k ∧ m = .int .u64 a ∧ a = (u / 10 ^ (7 + nd - k) : Nat)) (fun i _ _ => s.size - (intOf i).toNat)
        case atStart => exact ⟨7, 0, Nat.le_refl _, by omega, rfl, rfl, HR.out.atStart⟩
        case round =>
          obtain ⟨k, a, hk1, hk2, rfl, rfl, ha⟩ := hrel
          have HA : Hid (a = (u / 10 ^ (7 + nd - k) : Nat)) := ha
          clear ha
          by_cases hlt : k < 7 + nd
          · have hls : k < s.size := by omega
            have hle : (k : Int) < (s.size : Int) - 1 := by omega
            have hls' : (k : Int) < (s.size : Int) := by omega
            obtain ⟨g1, g2⟩ := HR.out.digBd k hls hk1 hlt
            obtain ⟨a1, a2⟩ := HR.out.bd k hk1 hlt HA.out
            have HN : Hid (a * 10 + ((s[k].toNat : Int) - 48) = (u / 10 ^ (7 + nd - (k + 1)) : Nat)) := HR.out.next k hls hk1 hlt HA.out
            go_wp2_with fail
            go_round
            case rel => exact ⟨k + 1, _, by omega, by omega, by go_num, rfl, HN.out⟩
            case measure => simp [intOf]; omega
          · have hle : ¬ (k : Int) < (s.size : Int) - 1 := by omega
            obtain rfl : k = 7 + nd := by omega
            have hau : a = (u : Int) := by rw [HA.out, Nat.sub_self]; simp
            clear HA
            have hv0 : v < 0 := by have := HV.out; omega
            have ha0 : (a == 0) = false := beq_eq_false_iff_ne.mpr (by omega)
            have hav : (a == -(v + 1) + 1) = true := by
              have := HV.out
              exact beq_iff_eq.mpr (by omega)
            clear hau
            go_wp2_with fail
            go_ret
            exact ⟨rfl, q, HW.out⟩

end Go.Proofs.Qxb6618393aDoor
