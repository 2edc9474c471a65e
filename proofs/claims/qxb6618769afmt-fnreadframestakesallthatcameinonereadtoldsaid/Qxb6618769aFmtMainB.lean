import Derived.Test.Qxb6618769aFmtPrep
namespace Go.Proofs.Qxb6618769aFmt
open Go.Extern.Stop Go.Stop Go.Extern Go.RowKit
set_option linter.unusedVariables false
set_option maxRecDepth 100000

set_option maxHeartbeats 2000000 in
theorem main4 (F : Interp) (a : Option Addr) (n cp : Nat) (f : Nat → Int) (size : Int) (ae au : Addr) (su : ByteArray) (w : World) (hS : Sen w.heap.size ae au su w) (hF : F.answers w.tape) (hB : ∀ j, 0 ≤ f j ∧ f j < 256) (hA : Arg w a n cp f) :
    Calls Tryf.prog 4 #[.slice a n cp, .int .i64 size] w fun e w' => e = .returned (.bool true) ∧ Below w.heap.size w w' := by
  have HA : Hid (Arg w a n cp f) := hA
  have HS : Hid (Sen w.heap.size ae au su w) := hS
  have HF : Hid (F.answers w.tape) := hF
  have h8 : 8 ≤ w.heap.size := hS.m8
  clear hA hS hF
  by_cases hn : n ≤ 1048576
  case neg =>
    have hd : decide (n ≤ 1048576) = false := by simpa using hn
    have H11 := bytes11 a n cp size w
    rw [hd] at H11
    go_enter Tryf.func4, Tryf.ntmps4
    go_wp2_with (go_at_call 11; refine H11.mono ?_; rintro e w1 ⟨rfl, hw1⟩; rw [hw1]; clear hw1 w1)
    go_ret
    exact ⟨rfl, Below.refl _ _⟩
  have hd : decide (n ≤ 1048576) = true := by simpa using hn
  have H11 := bytes11 a n cp size w
  rw [hd] at H11
  have hn' : ¬ (1048576 : Int) < (n : Int) := by omega
  by_cases hs : size ≤ 65536
  case neg =>
    have hs' : 65536 < size := by omega
    go_enter Tryf.func4, Tryf.ntmps4
    go_wp2_with (go_at_call 11; refine H11.mono ?_; rintro e w1 ⟨rfl, hw1⟩; rw [hw1]; clear hw1 w1)
    go_ret
    exact ⟨rfl, Below.refl _ _⟩
  by_cases hns : (n : Int) ≤ size
  case neg =>
    have hns' : size < (n : Int) := by omega
    go_enter Tryf.func4, Tryf.ntmps4
    go_wp2_with (go_at_call 11; refine H11.mono ?_; rintro e w1 ⟨rfl, hw1⟩; rw [hw1]; clear hw1 w1)
    go_ret
    exact ⟨rfl, Below.refl _ _⟩
  have hs' : ¬ 65536 < size := by omega
  have hns' : ¬ size < (n : Int) := by omega
  clear hd
  go_enter Tryf.func4, Tryf.ntmps4
  go_wp2_with (go_at_call 11; refine H11.mono ?_; rintro e w1 ⟨rfl, hw1⟩; rw [hw1]; clear hw1 w1)
  refine (clone_all a n cp f w hn h8 HA.out).mono ?_
  rintro e w1 ⟨da, B, rfl, hD1, hb1, hbel1⟩
  have HD1 : Hid (DA w1 B da n f) := hD1
  clear hD1
  go_wp2_with fail
  refine (model_any f hB B n da w1 hn hb1 HD1.out).mono ?_
  rintro e w2 ⟨Mn, vw, rfl, hcut, hown, hbel2⟩
  have HCut : Hid (Cut f 0 n Mn) := hcut
  have hvw : ∃ aw cw, vw = .slice aw Mn cw ∧ (0 < Mn → ∃ gw, aw = some ⟨gw, 0, none⟩) := by
    rcases hown.2 with ⟨h1, h2⟩ | ⟨gm, cm, _, h1, h2, _⟩
    · exact ⟨none, 0, by rw [h1, h2], fun h => by omega⟩
    · exact ⟨_, cm, h1, fun _ => ⟨gm, rfl⟩⟩
  obtain ⟨aw, cw, rfl, hgw⟩ := hvw
  have HO : Hid (w2.ownsRow w1.heap.size 22 1 (.slice aw Mn cw) Mn (mcuts f B n Mn)) := hown
  clear hcut hown
  go_wp2_with fail
  have k12 : Kp (fun _ => False) w1 w2 := ⟨hbel2.os, hbel2.tape, hbel2.output, hbel2.size, fun k hk _ => hbel2.block k hk⟩
  have kw1 : Kp (fun _ => False) w w1 := ⟨hbel1.os, hbel1.tape, hbel1.output, hbel1.size, fun k hk _ => hbel1.block k hk⟩
  have z1 := kw1.size
  have z2 := k12.size
  have HD2 : Hid (DA w2 B da n f) := HD1.out.keep k12 id
  refine (newReader n da B f size _ w2 hn hs rfl HD2.out (by omega) (by omega)).mono ?_
  rintro e w3 ⟨G, rfl, ok, hlo, hGB, hGn, hGD, hGS, hri, hbel3⟩
  have k23 : Kp (fun _ => False) w2 w3 := ⟨hbel3.os, hbel3.tape, hbel3.output, hbel3.size, fun k hk _ => hbel3.block k hk⟩
  have z3 := k23.size
  have hSZ : G.n ≤ G.SZ := by rw [hGn, hGS]; omega
  subst hGB hGn hGD
  have HRI : Hid (RI G w3 0 0) := hri
  have kw3 : Kp (fun _ => False) w w3 := (kw1.trans k12).trans k23
  have HS3 : Hid (Sen w.heap.size ae au su w3) := HS.out.keep kw3 (fun _ h => h.elim)
  have HF3 : Hid (F.answers w3.tape) := by show F.answers w3.tape; rw [kw3.tape]; exact HF.out
  have hlo' : G.Lo w.heap.size := ⟨by have := hlo.r; omega, by have := hlo.u; omega, by have := hlo.y; omega⟩
  have HO3 : Hid (w3.ownsRow w1.heap.size 22 1 (.slice aw Mn cw) Mn (mcuts G.D G.B G.n Mn)) := own_kp HO.out k23 (fun _ _ => id)
  have hgw2 : ∀ gw, aw = some ⟨gw, 0, none⟩ → gw < w2.heap.size := fun gw h => by
    rcases HO.out.2 with ⟨h1, h2⟩ | ⟨gm, cm, cur, h1, h2, h3, _⟩
    · rw [h] at h1; simp at h1
    · rw [h] at h1
      simp only [Value.slice.injEq, Option.some.injEq, Addr.mk.injEq, and_true, true_and] at h1
      rw [h1.1]; exact lt_of_block h3
  have fin : ∀ w', Kp (fun x => x = G.R ∨ x = G.U ∨ x = G.Y) w3 w' → Below w.heap.size w w' := fun w' h =>
    ((kw3.mono (fun _ h => h.elim)).trans h).below (fun k h => by have := hlo'.r; have := hlo'.u; have := hlo'.y; omega) (Nat.le_refl _)
  clear hGS hri HD1 HD2 HO k12 k23 kw1 hbel1 hbel2 hbel3 H11
  go_wp2_with fail
  by_cases hw : whole G 0
  · refine (zz_whole F G ok w.heap.size hlo' 0 0 ae au su w3 hB HRI.out HS3.out hw (by omega) (by omega)).mono ?_
    rintro e w4 ⟨g, cap, m, p, xs, rfl, q1, q2, q3, q4, q5, q6, q7⟩
    have hM : Mn = m + 1 := HCut.out.uniq ⟨q1, q7 rfl (by omega)⟩
    subst hM
    obtain ⟨gw, rfl⟩ := hgw (by omega)
    have hgw3 := hgw2 gw rfl
    have hgk : ¬ (gw = G.R ∨ gw = G.U ∨ gw = G.Y) := by have := hlo.r; have := hlo.u; have := hlo.y; omega
    have HW : Hid (∀ i, i < m + 1 → w4.cell? ⟨gw, i, none⟩ = some (.slice (some ⟨G.B, stp G.D 0 i, none⟩) (2 + bd G.D (stp G.D 0 i)) (G.n - stp G.D 0 i))) := fun i hi => by
      refine q6.cell hgk ?_
      rw [HO3.out.cellAt i (by omega), mcuts, List.getElem?_map, List.getElem?_range hi]; rfl
    have HX : Hid (∀ i, i < m + 1 → ∃ N cap', w4.cell? ⟨g, i, none⟩ = some (.slice (some ⟨N, 0, none⟩) (2 + bd G.D (stp G.D 0 i)) cap') ∧ ∀ j, j < 2 + bd G.D (stp G.D 0 i) → w4.cell? ⟨N, j, none⟩ = some (.int .u8 (G.D (stp G.D 0 i + j)))) := fun i hi => by
      obtain ⟨N, cap', cs, e1, e2, e3⟩ := q4 i hi
      exact ⟨N, cap', by rw [q3 i hi, e1], e3⟩
    have HDd : Hid (∀ j, j < G.n → w4.cell? ⟨G.B, j, none⟩ = some (.int .u8 (G.D j))) := fun j hj => (q5.2.2.1 (by omega)).2 j hj
    have HI4 : Hid (RI G w4 (stp G.D 0 (m + 1)) p) := q5
    have HQ1 : Hid (∀ i, i < m + 1 → stp G.D 0 (i + 1) ≤ G.n) := q1
    have hm20 : m + 1 ≤ 1048576 := by have := stp_ge G.D 0 (m + 1); have := q1 m (by omega); omega
    have hk4 : Kp (fun x => x = G.R ∨ x = G.U ∨ x = G.Y) w3 w4 := q6
    have HS4 : Hid (Sen w.heap.size ae au su w4) := HS3.out.keep hk4 (fun k h => by have := hlo'.r; have := hlo'.u; have := hlo'.y; omega)
    have HF4 : Hid (F.answers w4.tape) := by show F.answers w4.tape; rw [hk4.tape]; exact HF3.out
    have hnw : Hid (¬ whole G (stp G.D 0 (m + 1))) := by
      show ¬ whole G _
      rw [whole_iff, stp_add]; exact q7 rfl (by omega)
    have z4 := hk4.size
    clear q1 q2 q3 q4 q5 q6 q7 HO3 HRI HS3 HF3 hw
    go_wp2_with fail
    go_loopw [11] (fun i wr => ∃ k q : Nat, k ≤ m + 1 ∧ i = .int .i64 k ∧ wr = w4.drewN q) (fun i _ => m + 1 - (intOf i).toNat)
    case atStart => exact ⟨0, 0, Nat.zero_le _, rfl, rfl⟩
    case round =>
      obtain ⟨k, q, hk, rfl, hwr⟩ := hrel
      have HWr : Hid (wr = w4.drewN q) := hwr
      clear hwr
      by_cases hlt : k < m + 1
      · have hlt' : (k : Int) < (m : Int) + 1 := by omega
        have c1 : wr.cell? ⟨gw, k, none⟩ = some (.slice (some ⟨G.B, stp G.D 0 k, none⟩) (2 + bd G.D (stp G.D 0 k)) (G.n - stp G.D 0 k)) := by rw [HWr.out]; exact HW.out k hlt
        obtain ⟨N, cap', hx1, hx2⟩ := HX.out k hlt
        have c2 : wr.cell? ⟨g, k, none⟩ = some (.slice (some ⟨N, 0, none⟩) (2 + bd G.D (stp G.D 0 k)) cap') := by rw [HWr.out]; exact hx1
        have hfit : stp G.D 0 k + 2 + bd G.D (stp G.D 0 k) ≤ G.n := HQ1.out k hlt
        have HN : Hid (∀ j, j < 2 + bd G.D (stp G.D 0 k) → wr.cell? ⟨N, 0 + j, none⟩ = some (.int .u8 (G.D (stp G.D 0 k + j)))) := fun j hj => by rw [HWr.out, Nat.zero_add]; exact hx2 j hj
        have HBb : Hid (∀ j, j < 2 + bd G.D (stp G.D 0 k) → wr.cell? ⟨G.B, stp G.D 0 k + j, none⟩ = some (.int .u8 (G.D (stp G.D 0 k + j)))) := fun j hj => by rw [HWr.out]; exact HDd.out _ (by omega)
        clear hx1 hx2
        obtain ⟨L, hL⟩ : ∃ L, L = 2 + bd G.D (stp G.D 0 k) := ⟨_, rfl⟩
        obtain ⟨t, ht⟩ : ∃ t, t = stp G.D 0 k := ⟨_, rfl⟩
        rw [← hL, ← ht] at c1
        rw [← hL] at c2
        rw [← hL, ← ht] at HN HBb
        have hL20 : L ≤ 1048576 := by omega
        have hLt : t + L ≤ G.n := by omega
        clear hL ht hfit
        go_wp2_with fail
        go_region_held (fun w' => w'.cell? ⟨g, k, none⟩ = some (.slice (some ⟨N, 0, none⟩) L cap') ∧ w'.cell? ⟨gw, k, none⟩ = some (.slice (some ⟨G.B, t, none⟩) L (G.n - t))) (first | exact ⟨c2, c1⟩ | exact ⟨e2, e1⟩)
          ((go_at_call 10; refine (eq_any L N 0 cap' G.B t (G.n - t) (fun j => G.D (t + j)) wr.drew hL20 (by exact HN.out) (by exact HBb.out)).mono ?_; rintro e w5 ⟨rfl, q5, hw5⟩; have HW5 : Hid (∃ q', w5 = w4.drewN q') := ⟨_, (by rw [hw5, HWr.out]; show ((w4.drewN q).drewN 1).drewN q5 = _; rw [World.drewN_drewN, World.drewN_drewN])⟩; have e2 : w5.cell? ⟨g, k, none⟩ = some (.slice (some ⟨N, 0, none⟩) L cap') := (by rw [hw5]; exact c2); have e1 : w5.cell? ⟨gw, k, none⟩ = some (.slice (some ⟨G.B, t, none⟩) L (G.n - t)) := (by rw [hw5]; exact c1); clear hw5))
        clear c1 c2 e1 e2
        go_wp2_with fail
        go_roundw
        case rel =>
          obtain ⟨q', hq'⟩ := HW5.out
          first | exact ⟨k + 1, q', by omega, by go_num, hq'⟩ | ((repeat apply Exists.intro); exact ⟨⟨k + 1, q', by omega, by go_num, hq'⟩, rfl⟩)
        case measure => simp [intOf]; omega
      · obtain rfl : k = m + 1 := by omega
        have hne := fun w => Lib.run_eql_slice_nil (P := Tryf.prog) w 25 22 none 0 0 0 0 Tryf.underlying25
        have hkr : Kp (fun _ => False) w4 wr := by rw [HWr.out]; exact (Kp.refl _ _).drewN q
        have zr := hkr.size
        have H9 := zz_fail F G ok w.heap.size hlo' (stp G.D 0 (m + 1)) p ae au su wr hB (HI4.out.keep hkr id id id id) (HS4.out.keep hkr (fun _ h => h.elim)) (by rw [hkr.tape]; exact HF4.out) hnw.out (HQ1.out m (by omega)) (by omega) (by omega)
        obtain ⟨t, ht⟩ : ∃ t, t = stp G.D 0 (m + 1) := ⟨_, rfl⟩
        rw [← ht] at H9
        rw [← ht]
        have hfin := fun w' h => fin w' (hk4.trans ((hkr.mono (fun _ h => h.elim)).trans h))
        clear ht HW HX HDd HI4 HQ1 hnw
        by_cases hz : t = G.n
        · have hd : decide (t = G.n) = true := by simp [hz]
          rw [hd] at H9
          have hz' : ((t : Int) == (G.n : Int)) = true := by simp [hz]
          go_wp2_with (go_at_call 9; refine H9.mono ?_; rintro e w6 ⟨rfl, hk6⟩)
          go_ret
          exact ⟨rfl, hfin _ hk6⟩
        · have hd : decide (t = G.n) = false := by simp [hz]
          rw [hd] at H9
          have hz' : ((t : Int) == (G.n : Int)) = false := beq_eq_false_iff_ne.mpr (by omega)
          go_wp2_with (go_at_call 9; refine H9.mono ?_; rintro e w6 ⟨rfl, hk6⟩)
          go_ret
          exact ⟨rfl, hfin _ hk6⟩
  · have hM : Mn = 0 := HCut.out.uniq ⟨fun i h => by omega, by rw [← whole_iff]; exact hw⟩
    subst hM
    have hne := fun w => Lib.run_eql_slice_nil (P := Tryf.prog) w 25 22 none 0 0 0 0 Tryf.underlying25
    have H9 := zz_fail F G ok w.heap.size hlo' 0 0 ae au su w3 hB HRI.out HS3.out HF3.out hw (Nat.zero_le _) (by omega) (by omega)
    by_cases hz : G.n = 0
    · have hd : decide (0 = G.n) = true := by simp [hz]
      rw [hd] at H9
      have hz' : ((G.n : Int) == 0) = true := by simp [hz]
      refine H9.mono ?_
      rintro e w4 ⟨rfl, hk4⟩
      go_wp2
      go_ret
      exact ⟨rfl, fin _ hk4⟩
    · have hd : decide (0 = G.n) = false := by simp; omega
      rw [hd] at H9
      have hz' : ((G.n : Int) == 0) = false := beq_eq_false_iff_ne.mpr (by omega)
      refine H9.mono ?_
      rintro e w4 ⟨rfl, hk4⟩
      go_wp2
      go_ret
      exact ⟨rfl, fin _ hk4⟩
end Go.Proofs.Qxb6618769aFmt
