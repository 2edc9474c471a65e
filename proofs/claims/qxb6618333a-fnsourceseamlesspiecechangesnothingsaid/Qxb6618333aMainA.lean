import Derived.Test.Qxb6618333aPlain
import Derived.Laws.CopyOwn
import Derived.Deep.RegionHeld
import Derived.Deep.Cut
namespace Go.Proofs.Qxb6618333a
open Go.RowKit
set_option linter.unusedVariables false
set_option maxRecDepth 100000

theorem Try.info3 : (Try.prog.info? 3).map (fun i => (i.zero, i.size, i.bytes)) = some (some (.int .i64 0), 1, 8) := by kernel_rfl

/-- 'c := make([]T, len(s)); copy(c, s)', s a slice of integers that came in: behind the copy the new row holds its elements. -/
theorem wpList_copy_fresh {P : Program} {w0 : World} {ops : Array Oper} {rest : List Oper} {o : Oper} {a : Act} {Q : Exit → Act → World → Prop} (hgd : o.guard = none) (d s : Operand) (dT sT : TypeId)
    (ho : o.op = .call { callee := .builtin .copy, args := #[d, s], argTypes := #[dT, sT] }) (elem : TypeId) (hu : P.underlying dT = some (.slice elem)) (hsz : (P.info? elem).map (·.size) = some 1)
    (k : IntKind) (x : Addr) (len cap : Nat) (z : List Int) (hd : a.eval d = .slice (some ⟨w0.heap.size, 0, none⟩) len len) (hs : a.eval s = .slice (some x) len cap)
    (hl : len ≤ z.length) (hc : ∀ i, i < z.length → w0.cell? (x.add i) = some (.int k (z.getD i 0)))
    (h : ∀ w', Hid (w'.rowIs w0.heap.size elem len (fun j => .int k (z.getD j 0))) → Below w0.heap.size w0 w' → w0.heap.size < w'.heap.size → wpList P ops Q rest (a.put o.dst (goInt len)) w') :
    wpList P ops Q (o :: rest) a (w0.alloc (.cells (madeCells #[.int k 0] len) elem)) := by
  have hlen : ((z.take len).map (Value.int k)).length = len := by simp; omega
  refine wpList_copy_splice hgd d s dT sT ho elem hu hsz _ _ _ _ _ _ hd hs w0.heap.size 0 (List.replicate len (.int k 0)) elem ?a1 ((z.take len).map (Value.int k)) ?a2 ?a3 ?a4 ?a5 w0.heap.size w0 ?a6 (Nat.le_refl _) ?_
  case a1 => rw [Deep.blk_alloc_new, ← toList_madeCells_one]
  case a2 => rw [hlen]; exact (Nat.min_self _).symm
  case a3 =>
    intro _
    refine ⟨rfl, x, rfl, fun j v hj => ?_⟩
    have hjl : j < len := by
      have := (List.getElem?_eq_some_iff.1 hj).1
      rw [hlen] at this; exact this
    have hcj := hc j (by omega)
    have hv : v = .int k (z.getD j 0) := by
      rw [List.getElem?_map, List.getElem?_take, if_pos hjl] at hj
      rw [List.getElem?_eq_getElem (by omega : j < z.length)] at hj
      simp at hj
      rw [← hj, List.getD_eq_getElem?_getD, List.getElem?_eq_getElem (by omega : j < z.length)]
      rfl
    rw [World.cell?_alloc_lt _ _ _ (World.block_lt_of_cell? _ _ hcj), hcj, hv]
  case a4 => rw [hlen]; simp
  case a5 =>
    intro v hv
    obtain ⟨n, _, rfl⟩ := List.mem_map.1 hv
    rfl
  case a6 => exact (Below.refl _ _).alloc (Nat.le_refl _) _
  intro w' hrow hb
  have e : goInt ((z.take len).map (Value.int k)).length = goInt len := by rw [hlen]
  rw [e]
  have hrow' := hrow.out
  have hsp : splice (List.replicate len (Value.int k 0)) 0 ((z.take len).map (Value.int k)) = (z.take len).map (Value.int k) := by
    simp [splice]; omega
  rw [hsp] at hrow'
  refine h w' ?_ hb (lt_of_block hrow')
  refine ⟨_, hrow', by simp; omega, fun j hj => ?_⟩
  rw [List.getElem?_toArray, List.getElem?_map, List.getElem?_take, if_pos hj, List.getElem?_eq_getElem (by omega : j < z.length)]
  simp [List.getD_eq_getElem?_getD, List.getElem?_eq_getElem (by omega : j < z.length)]

set_option maxHeartbeats 2000000 in
theorem core (x0 : Addr) (n cap0 : Nat) (z0 : List Int) (x1 : Addr) (cap1 : Nat) (z1 : List Int) (i m k : Int) (w : World)
    (hl0 : n ≤ z0.length) (hl1 : n ≤ z1.length) (hn : n ≤ 65536) (hn1 : 1 ≤ n)
    (hc0 : ∀ i, i < z0.length → w.cell? (x0.add i) = some (.int .i64 (z0.getD i 0))) (hc1 : ∀ i, i < z1.length → w.cell? (x1.add i) = some (.int .i64 (z1.getD i 0))) :
    Calls Try.prog 3 #[.slice (some x0) n cap0, .slice (some x1) n cap1, .int .i64 i, .int .i64 m, .int .i64 k] w fun e w' => e = .returned (.bool true) ∧ Below w.heap.size w w' := by
  have hne0 := fun w => run_neq_slice_nil_any (P := Try.prog) w 22 3 (some x0) n cap0 0 0 Try.underlying22
  have hne1 := fun w => run_neq_slice_nil_any (P := Try.prog) w 22 3 (some x1) n cap1 0 0 Try.underlying22
  have hmk := run_make_row' (P := Try.prog) 22 3 (.int .i64 0) 8 Try.underlying22 Try.info3 rfl .i64 .i64 n (by omega) (by omega)
  go_enter Try.func3, Try.ntmps3
  go_wp2_with fail
  refine (bytes_any _ _ _ _ _ _ _ _ _ _ (by unfold maxLen; omega) (by unfold maxLen; omega)).mono ?_
  rintro e w2 ⟨rfl, hw2⟩
  rw [hw2]
  clear hw2 w2
  have hd : decide (n + n ≤ 1048576) = true := decide_eq_true (by omega)
  rw [hd]
  clear hd
  go_upto_region 7 with fail
  iterate 7 go_step
  refine wpList_copy_fresh rfl (.tmp 41) (.tmp 42) 22 22 rfl 3 Try.underlying22 (by kernel_rfl) .i64 x0 n cap0 z0 rfl rfl hl0 hc0 ?_
  intro w1 HR1 hb1 hz1
  have hc1' : ∀ i, i < z1.length → w1.cell? (x1.add i) = some (.int .i64 (z1.getD i 0)) := fun i hi => cell_later hb1 (hc1 i hi)
  clear hc0 hc1 hne0
  go_upto_region 11 with fail
  iterate 7 go_step
  refine wpList_copy_fresh rfl (.tmp 50) (.tmp 51) 22 22 rfl 3 Try.underlying22 (by kernel_rfl) .i64 x1 n cap1 z1 rfl rfl hl1 hc1' ?_
  intro w2 HR2 hb2 hz2
  clear hc1' hne1 hmk
  obtain ⟨fa, hfa⟩ : ∃ fa : Nat → Int, fa = fun j => z0.getD j 0 := ⟨_, rfl⟩
  obtain ⟨fs, hfs⟩ : ∃ fs : Nat → Int, fs = fun j => z1.getD j 0 := ⟨_, rfl⟩
  have HA : Hid (∀ j, j < n → w2.cell? ⟨w.heap.size, j, none⟩ = some (.int .i64 (fa j))) := fun j hj => by rw [hfa]; exact (hb2.cell (by exact hz1)).trans (HR1.out.cell hj)
  have HS : Hid (∀ j, j < n → w2.cell? ⟨w1.heap.size, j, none⟩ = some (.int .i64 (fs j))) := fun j hj => by rw [hfs]; exact HR2.out.cell hj
  have hbel : Below w.heap.size w w2 := hb1.trans (hb2.mono (by omega))
  clear hfa hfs HR1 HR2 hl0 hl1
  have h0n : ((n : Int) == 0) = false := by simp; omega
  go_wp2_with fail
  refine (inRange_any _ n n fa 0 1152921504606846975 w2 (by omega) HA.out).mono ?_
  rintro e w3 ⟨rfl, hw3⟩
  rw [hw3]
  clear hw3 w3
  cases hr0 : inR fa 0 1152921504606846975 n with
  | false => 
    go_wp2_with fail
    go_ret
    exact ⟨rfl, hbel⟩
  | true =>
  go_wp2_with fail
  refine (inRange_any _ n n fs 0 1152921504606846975 w2 (by omega) HS.out).mono ?_
  rintro e w3 ⟨rfl, hw3⟩
  rw [hw3]
  clear hw3 w3
  cases hr1 : inR fs 0 1152921504606846975 n with
  | false => 
    go_wp2_with fail
    go_ret
    exact ⟨rfl, hbel⟩
  | true =>
  go_wp2_with fail
  refine (ascending_any _ n n fa w2 (by omega) HA.out).mono ?_
  rintro e w3 ⟨rfl, q, hw3⟩
  rw [hw3]
  clear hw3 w3
  cases has : asc fa n with
  | false => 
    go_wp2_with fail
    go_ret
    exact ⟨rfl, below_drewN hbel _⟩
  | true =>
  by_cases hi : 0 ≤ i ∧ i ≤ 1152921504606846975
  rotate_left
  · have hi' : i < 0 ∨ 1152921504606846975 < i := by omega
    clear hi
    rcases hi' with hi | hi
    · go_wp2_with fail
      go_ret
      exact ⟨rfl, below_drewN hbel _⟩
    · have hi' : ¬ i < 0 := by omega
      go_wp2_with fail
      go_ret
      exact ⟨rfl, below_drewN hbel _⟩
  by_cases hm : 0 ≤ m ∧ m < n
  rotate_left
  · have hm' : m < 0 ∨ (n : Int) ≤ m := by omega
    clear hm
    obtain ⟨hi1, hi2⟩ := hi
    rcases hm' with hm | hm
    · go_wp2_with fail
      go_ret
      exact ⟨rfl, below_drewN hbel _⟩
    · have hm' : ¬ m < 0 := by omega
      go_wp2_with fail
      go_ret
      exact ⟨rfl, below_drewN hbel _⟩
  obtain ⟨hm0, hm1⟩ := hm
  obtain ⟨m', hm'⟩ := Int.eq_ofNat_of_zero_le hm0
  subst hm'
  have hmn : m' < n := by omega
  have hcm := HA.out m' hmn
  have hsm := HS.out m' hmn
  obtain ⟨ba1, ba2⟩ := (inR_iff fa _ _ n).1 hr0 m' hmn
  obtain ⟨bs1, bs2⟩ := (inR_iff fs _ _ n).1 hr1 m' hmn
  have HR0 : Hid (∀ j, j < n → 0 ≤ fa j ∧ fa j ≤ 1152921504606846975) := (inR_iff fa _ _ n).1 hr0
  have HR1 : Hid (∀ j, j < n → 0 ≤ fs j ∧ fs j ≤ 1152921504606846975) := (inR_iff fs _ _ n).1 hr1
  have HAS : Hid (∀ j, j + 1 < n → fa j < fa (j + 1)) := (asc_iff fa n).1 has
  clear hr0 hr1 has
  obtain ⟨hi1, hi2⟩ := hi
  by_cases hk : fa m' < k ∧ k ≤ 1152921504606846975
  rotate_left
  · have hk' : k ≤ fa m' ∨ 1152921504606846975 < k := by omega
    clear hk
    rcases hk' with hk | hk
    · go_wp2_with fail
      go_ret
      exact ⟨rfl, below_drewN hbel _⟩
    · have hk' : ¬ k ≤ fa m' := by omega
      go_wp2_with fail
      go_ret
      exact ⟨rfl, below_drewN hbel _⟩
  obtain ⟨hk1, hk2⟩ := hk
  by_cases hk3 : m' + 1 < n ∧ fa (m' + 1) ≤ k
  · obtain ⟨hk3, hk4⟩ := hk3
    have hcm1 := HA.out (m' + 1) hk3
    have hk3' : (m' : Int) + 1 < (n : Int) := by omega
    go_wp2_with fail
    go_ret
    exact ⟨rfl, below_drewN hbel _⟩
  have HK3 : Hid (m' + 1 < n → k < fa (m' + 1)) := fun h => by omega
  clear hk3
  go_upto_region 26 with fail
  go_cut [110] from 21 (fun s wx => s = .bool false ∧ wx = w2.drewN q)
  case first =>
    by_cases hlast : m' + 1 < n
    · have hcm1 := HA.out (m' + 1) hlast
      have hk3' : (m' : Int) + 1 < (n : Int) := by omega
      have hk4 : k < fa (m' + 1) := HK3.out hlast
      go_wp2_with fail
      go_meet
      exact ⟨by rw [decide_eq_false (by omega)], rfl⟩
    · have hk3' : ¬ (m' : Int) + 1 < (n : Int) := by omega
      go_wp2_with fail
      go_meet
      exact ⟨rfl, rfl⟩
  case rest =>
    obtain ⟨rfl, rfl⟩ := hcut
    go_wp2_with fail
    refine (joined_any _ _ n n n fa fs (w2.drewN q) (by omega) (by exact HA.out) (by exact HS.out) (by show _ < w2.heap.size; omega) (by exact hz2)).mono ?_
    rintro e w3 ⟨jb, g, rfl, HPJ, hb3'⟩
    have hb3 : Below w2.heap.size w2 w3 := (below_drewN (Below.refl _ _) q).trans hb3'
    clear hb3'
    have HP : Hid (PJ w3 jb g n fa fs) := HPJ
    clear HPJ
    have HA3 : Hid (∀ j, j < n → w3.cell? ⟨w.heap.size, j, none⟩ = some (.int .i64 (fa j))) := fun j hj => (hb3.cell (by show w.heap.size < w2.heap.size; omega)).trans (HA.out j hj)
    have HS3 : Hid (∀ j, j < n → w3.cell? ⟨w1.heap.size, j, none⟩ = some (.int .i64 (fs j))) := fun j hj => (hb3.cell hz2).trans (HS.out j hj)
    have hbel3 : Below w.heap.size w w3 := hbel.trans (hb3.mono (by omega))
    have hz3 : w1.heap.size < w3.heap.size := Nat.lt_of_lt_of_le hz2 hb3.size
    clear HA HS hbel hb3 hz2 hcm hsm hb1 hb2
    have hcm := HA3.out m' hmn
    have hsm := HS3.out m' hmn
    have hmn' : (m' : Int) < (n : Int) := by omega
    go_wp2_with fail
    go_quiet (fail)
    have hmk2 : ∀ w, (Instr.makeSlice 22 (.int .i64 ((n : Int) + 1)) (.int .i64 ((n : Int) + 1))).run Try.prog w = .ok (.slice (some ⟨w.heap.size, 0, none⟩) (n + 1) (n + 1)) (w.alloc (.cells (madeCells #[.int .i64 0] (n + 1)) 3)) := fun w => by
      have h := run_make_row' (P := Try.prog) 22 3 (.int .i64 0) 8 Try.underlying22 Try.info3 rfl .i64 .i64 (n + 1) (by omega) (by omega) w
      rwa [show ((n + 1 : Nat) : Int) = (n : Int) + 1 from by omega] at h
    obtain ⟨mid, hmid⟩ : ∃ mid, mid = fs m' + k - fa m' := ⟨_, rfl⟩
    go_wp2_with fail
    rw [← hmid]
    have HM : Hid (mid = fs m' + k - fa m') := hmid
    have bm1 : 0 ≤ mid := by omega
    have bm2 : mid ≤ 2305843009213693951 := by omega
    clear hmid hmk2
    go_loopw [18] (fun c wr => ∃ p : Nat, p ≤ m' + 1 ∧ c = .int .i64 p ∧ Fill w3 wr n p (ins fa m' k) (ins fs m' mid)) (fun c _ => m' + 1 - (intOf c).toNat)
    case atStart => exact ⟨0, Nat.zero_le _, rfl, Fill.start w3 nq n _ _⟩
    case round =>
      obtain ⟨p, hp, rfl, HF⟩ := hrel
      have hbw := HF.2.2
      by_cases hlt : p < m' + 1
      · have hpa : wr.cell? ⟨w.heap.size, p, none⟩ = some (.int .i64 (fa p)) := (hbw.cell (by show w.heap.size < w3.heap.size; omega)).trans (HA3.out p (by omega))
        have hps : wr.cell? ⟨w1.heap.size, p, none⟩ = some (.int .i64 (fs p)) := (hbw.cell (by exact hz3)).trans (HS3.out p (by omega))
        obtain ⟨hra, hrs, hfa, hfs⟩ := HF.ready (i := p) (by omega)
        have hle : (p : Int) ≤ (m' : Int) := by omega
        have hpn : (p : Int) < (n : Int) := by omega
        have hpn1 : (p : Int) < (n : Int) + 1 := by omega
        go_wp2
        go_roundw
        case rel => exact ⟨p + 1, by omega, by go_num, HF.step (by rw [ins_le (by omega)]) (by rw [ins_le (by omega)])⟩
        case measure => simp [intOf]; omega
      · have hle : ¬ (p : Int) ≤ (m' : Int) := by omega
        obtain rfl : p = m' + 1 := by omega
        obtain ⟨hra, hrs, hfa, hfs⟩ := HF.ready (i := m' + 1) (by omega)
        have hmn2 : (m' : Int) + 1 < (n : Int) + 1 := by omega
        clear hbw hlt hp
        go_wp2_with fail
        obtain ⟨w4, hw4⟩ : ∃ w4, w4 = ((wr.setCell ⟨w3.heap.size, m' + 1, none⟩ (.int .i64 k)).setCell ⟨w3.heap.size + 1, m' + 1, none⟩ (.int .i64 mid)) := ⟨_, rfl⟩
        rw [← hw4]
        have HF4 : Fill w3 w4 n (m' + 1 + 1) (ins fa m' k) (ins fs m' mid) := by rw [hw4]; exact HF.step ins_at.symm ins_at.symm
        clear hw4 HF hra hrs hfa hfs
        go_loopw [19] (fun c wr => ∃ p : Nat, m' + 1 ≤ p ∧ p ≤ n ∧ c = .int .i64 p ∧ Fill w3 wr n (p + 1) (ins fa m' k) (ins fs m' mid)) (fun c _ => n - (intOf c).toNat)
        case atStart => exact ⟨m' + 1, Nat.le_refl _, by omega, by go_num, HF4⟩
        case round =>
          obtain ⟨p, hp0, hp, rfl, HF⟩ := hrel
          have hbw := HF.2.2
          by_cases hlt : p < n
          · have hpa : wr.cell? ⟨w.heap.size, p, none⟩ = some (.int .i64 (fa p)) := (hbw.cell (by show w.heap.size < w3.heap.size; omega)).trans (HA3.out p (by omega))
            have hps : wr.cell? ⟨w1.heap.size, p, none⟩ = some (.int .i64 (fs p)) := (hbw.cell (by exact hz3)).trans (HS3.out p (by omega))
            obtain ⟨hra, hrs, hfa, hfs⟩ := HF.ready (i := p + 1) (by omega)
            have hpn : (p : Int) < (n : Int) := by omega
            have hpn1 : (p : Int) + 1 < (n : Int) + 1 := by omega
            go_wp2
            go_roundw
            case rel => exact ⟨p + 1, by omega, by omega, by go_num, HF.step (by rw [ins_gt (by omega)]) (by rw [ins_gt (by omega)])⟩
            case measure => simp [intOf]; omega
          · obtain rfl : p = n := by omega
            go_wp2_with fail
            refine (joined_any w3.heap.size (w3.heap.size + 1) (p + 1) (p + 1) (p + 1) (ins fa m' k) (ins fs m' mid) wr (by omega) (fill_cell HF.1) (fill_cell HF.2.1) HF.1.lt HF.2.1.lt).mono ?_
            rintro e w5 ⟨jb2, g2, rfl, HPJ2, hb5'⟩
            have hb5 : Below w3.heap.size w3 w5 := hbw.trans (hb5'.mono (by have := HF.1.lt; omega))
            have HP2 : Hid (PJ w5 jb2 g2 (p + 1) (ins fa m' k) (ins fs m' mid)) := HPJ2
            have HP1 : Hid (PJ w5 jb g p fa fs) := HP.out.mono hb5
            have hcm5 : w5.cell? ⟨w.heap.size, m', none⟩ = some (.int .i64 (fa m')) := (hb5.cell (by show w.heap.size < w3.heap.size; omega)).trans hcm
            have hsm5 : w5.cell? ⟨w1.heap.size, m', none⟩ = some (.int .i64 (fs m')) := (hb5.cell (by exact hz3)).trans hsm
            have hbel5 : Below w.heap.size w w5 := hbel3.trans (hb5.mono (by omega))
            have hz5 : w.heap.size ≤ w5.heap.size := hbel5.size
            clear HPJ2 hb5' hb5 hbw HF hcm hsm hbel3 HP HF4
            obtain ⟨V, hV1, hV2⟩ := answers (fa := fa) (fs := fs) (i := i) hn1 hmn hk1 HK3.out HM.out
            have C1 := fun wx (h : Below w5.heap.size w5 wx) => source_at (wx := wx) (by omega) HP2.out ⟨hi1, hi2⟩ (ins_bounds HR0.out HR1.out hmn ⟨by omega, hk2⟩ ⟨bm1, bm2⟩) hV2 h
            have C2 := fun wx (h : Below w5.heap.size w5 wx) => source_at (wx := wx) (by omega) HP1.out ⟨hi1, hi2⟩ (old_bounds HR0.out HR1.out) hV1 h
            have C3 := fun wx (h : Below w5.heap.size w5 wx) => source_at (wx := wx) (v := fs m') (by omega) HP1.out ⟨ba1, ba2⟩ (old_bounds HR0.out HR1.out) ⟨m', pk_own HAS.out hmn, by omega⟩ h
            have C4 := fun wx (h : Below w5.heap.size w5 wx) => source_at (wx := wx) (v := mid) (by omega) HP1.out ⟨by omega, hk2⟩ (old_bounds HR0.out HR1.out) ⟨m', pk_k HAS.out hmn hk1 HK3.out, HM.out⟩ h
            have C5 := fun wx (h : Below w5.heap.size w5 wx) => source_at (wx := wx) (v := mid) (by omega) HP2.out ⟨by omega, hk2⟩ (ins_bounds HR0.out HR1.out hmn ⟨by omega, hk2⟩ ⟨bm1, bm2⟩) ⟨m' + 1, pk_k2 HAS.out hmn hk1 HK3.out, by rw [ins_at, ins_at]; omega⟩ h
            go_upto_region 45 with fail
            have hb0 : Below w5.heap.size w5 w5 := Below.refl _ _
            have HKEEP : Hid (∀ w', Below w5.heap.size w5 w' → w'.cell? ⟨w.heap.size, m', none⟩ = some (.int .i64 (fa m')) ∧ w'.cell? ⟨w1.heap.size, m', none⟩ = some (.int .i64 (fs m')) ∧ Below w5.heap.size w5 w') :=
              fun w' h => ⟨cell_later h hcm5, cell_later h hsm5, h⟩
            clear hV1 hV2 HP1 HP2 HM HK3 HAS HR0 HR1 HA3 HS3
            go_region_held (fun w' => w'.cell? ⟨w.heap.size, m', none⟩ = some (.int .i64 (fa m')) ∧ w'.cell? ⟨w1.heap.size, m', none⟩ = some (.int .i64 (fs m')) ∧ Below w5.heap.size w5 w') (exact HKEEP.out _ (by first | assumption | exact hb0.drew))
              (first
                | (go_at_call_of 9 (Value.pointer (some ⟨jb2, 0, none⟩)); go_at_call_of 9 (Value.int .i64 i); refine (C1 _ ?_).mono ?_; (first | assumption | exact hb0.drew); rintro e w' ⟨rfl, hbx⟩)
                | (go_at_call_of 9 (Value.pointer (some ⟨jb, 0, none⟩)); go_at_call_of 9 (Value.int .i64 i); refine (C2 _ ?_).mono ?_; (first | assumption | exact hb0.drew); rintro e w' ⟨rfl, hbx⟩)
                | (go_at_call_of 9 (Value.pointer (some ⟨jb, 0, none⟩)); go_at_call_of 9 (Value.int .i64 (fa m')); refine (C3 _ ?_).mono ?_; (first | assumption | exact hb0.drew); rintro e w' ⟨rfl, hbx⟩)
                | (go_at_call_of 9 (Value.pointer (some ⟨jb, 0, none⟩)); go_at_call_of 9 (Value.int .i64 k); refine (C4 _ ?_).mono ?_; (first | assumption | exact hb0.drew); rintro e w' ⟨rfl, hbx⟩)
                | (go_at_call_of 9 (Value.pointer (some ⟨jb2, 0, none⟩)); go_at_call_of 9 (Value.int .i64 k); refine (C5 _ ?_).mono ?_; (first | assumption | exact hb0.drew); rintro e w' ⟨rfl, hbx⟩))
            go_wp2
            go_ret
            exact ⟨rfl, hbel5.trans (Below.mono (B := w5.heap.size) (by assumption) hz5)⟩

end Go.Proofs.Qxb6618333a
