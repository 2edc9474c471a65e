import Derived.Test.Qxb6618334aPlain
import Derived.Test.Qxb6618334aCallC
import Derived.Laws.CopyOwn
import Derived.Deep.Cut
import Derived.Deep.CutRange
import Derived.Deep.DeepCutAuto
namespace Go.Proofs.Qxb6618334a
open Go.RowKit
set_option linter.unusedVariables false
set_option maxRecDepth 100000

theorem Try.info3 : (Try.prog.info? 3).map (fun i => (i.zero, i.size, i.bytes)) = some (some (.int .i64 0), 1, 8) := by kernel_rfl
theorem Try.info25 : (Try.prog.info? 25).map (fun i => (i.zero, i.size, i.bytes)) = some (some (.int .u16 0), 1, 2) := by kernel_rfl

/-- 'c := make([]T, len(s)); copy(c, s)', s a slice of integers that came in: behind the copy the new row holds its elements. -/
theorem wpList_copy_fresh {P : Program} {w0 : World} {ops : Array Oper} {rest : List Oper} {o : Oper} {a : Act} {Q : Exit → Act → World → Prop} (hgd : o.guard = none) (d s : Operand) (dT sT : TypeId)
    (ho : o.op = .call { callee := .builtin .copy, args := #[d, s], argTypes := #[dT, sT] }) (elem : TypeId) (hu : P.underlying dT = some (.slice elem)) (hsz : (P.info? elem).map (·.size) = some 1)
    (k : IntKind) (x : Addr) (len cap : Nat) (z : List Int) (hd : a.eval d = .slice (some ⟨w0.heap.size, 0, none⟩) len len) (hs : a.eval s = .slice (some x) len cap)
    (hl : len ≤ z.length) (hc : ∀ i, i < z.length → w0.cell? (x.add i) = some (.int k (z.getD i 0)))
    (h : ∀ w', Hid (w'.rowIs w0.heap.size elem len (fun j => .int k (z.getD j 0))) → Below w0.heap.size w0 w' → w0.heap.size < w'.heap.size → wpList P ops Q rest (a.put o.dst (goInt len)) w') :
    wpList P ops Q (o :: rest) a (w0.alloc (.cells (madeCells #[.int k 0] len) elem)) := by
  have hlen : ((z.take len).map (Value.int k)).length = len := by simp; omega
  refine wpList_copy_splice hgd d s dT sT ho elem hu hsz _ _ _ _ _ _ hd hs w0.heap.size 0 (List.replicate len (.int k 0)) elem ?a1 ((z.take len).map (Value.int k)) ?a2 ?a3 ?a4 ?a5 w0.heap.size w0 ?a6 (Nat.le_refl _) ?_
  case a1 => rw [Deep.blk_alloc_new, ← toList_madeCells_one]
  case a2 => rw [hlen]; exact (Nat.min_self _).symm
  case a3 =>
    intro _
    refine ⟨rfl, x, rfl, fun j v hj => ?_⟩
    have hjl : j < len := by
      have := (List.getElem?_eq_some_iff.1 hj).1
      rw [hlen] at this; exact this
    have hcj := hc j (by omega)
    have hv : v = .int k (z.getD j 0) := by
      rw [List.getElem?_map, List.getElem?_take, if_pos hjl] at hj
      rw [List.getElem?_eq_getElem (by omega : j < z.length)] at hj
      simp at hj
      rw [← hj, List.getD_eq_getElem?_getD, List.getElem?_eq_getElem (by omega : j < z.length)]
      rfl
    rw [World.cell?_alloc_lt _ _ _ (World.block_lt_of_cell? _ _ hcj), hcj, hv]
  case a4 => rw [hlen]; simp
  case a5 =>
    intro v hv
    obtain ⟨n, _, rfl⟩ := List.mem_map.1 hv
    rfl
  case a6 => exact (Below.refl _ _).alloc (Nat.le_refl _) _
  intro w' hrow hb
  have e : goInt ((z.take len).map (Value.int k)).length = goInt len := by rw [hlen]
  rw [e]
  have hrow' := hrow.out
  have hsp : splice (List.replicate len (Value.int k 0)) 0 ((z.take len).map (Value.int k)) = (z.take len).map (Value.int k) := by
    simp [splice]; omega
  rw [hsp] at hrow'
  refine h w' ?_ hb (lt_of_block hrow')
  refine ⟨_, hrow', by simp; omega, fun j hj => ?_⟩
  rw [List.getElem?_toArray, List.getElem?_map, List.getElem?_take, if_pos hj, List.getElem?_eq_getElem (by omega : j < z.length)]
  simp [List.getD_eq_getElem?_getD, List.getElem?_eq_getElem (by omega : j < z.length)]


/-- The slice behind the copy: as many elements; where there is one they lie in a row of the call's own. -/
def Cop (w wx : World) (K : IntKind) (v : Value) (n : Nat) (f : Nat → Int) : Prop := ∃ a c, v = .slice a n c ∧ Rd wx K a n f ∧ Below w.heap.size w wx

set_option maxHeartbeats 4000000 in
theorem core (a0 : Option Addr) (r c0 : Nat) (z0 : List Int) (a1 : Option Addr) (n c1 : Nat) (z1 : List Int) (a2 : Option Addr) (c2 : Nat) (z2 : List Int) (a3 : Option Addr) (c3 : Nat) (z3 : List Int)
    (t u off ln k : Int) (w : World) (hr : r ≤ 1048576) (hn : n ≤ 65536) (hsum : r + n + n + n ≤ 1048576)
    (C0 : Came .u8 w a0 r z0) (C1 : Came .u16 w a1 n z1) (C2 : Came .i64 w a2 n z2) (C3 : Came .i64 w a3 n z3) :
    Calls Try.prog 3 #[.slice a0 r c0, .slice a1 n c1, .slice a2 n c2, .slice a3 n c3, .int .u16 t, .int .u16 u, .int .i64 off, .int .i64 ln, .int .i64 k] w fun e w' => e = .returned (.bool true) ∧ Below w.heap.size w w' := by
  have HC0 : Hid (Came .u8 w a0 r z0) := C0
  have HC1 : Hid (Came .u16 w a1 n z1) := C1
  have HC2 : Hid (Came .i64 w a2 n z2) := C2
  have HC3 : Hid (Came .i64 w a3 n z3) := C3
  clear C0 C1 C2 C3
  have hne1 := fun w => run_neq_slice_nil_any (P := Try.prog) w 23 25 a1 n c1 0 0 Try.underlying23
  have hne2 := fun w => run_neq_slice_nil_any (P := Try.prog) w 24 3 a2 n c2 0 0 Try.underlying24
  have hne3 := fun w => run_neq_slice_nil_any (P := Try.prog) w 24 3 a3 n c3 0 0 Try.underlying24
  have hmk1 := run_make_row' (P := Try.prog) 23 25 (.int .u16 0) 2 Try.underlying23 Try.info25 rfl .i64 .i64 n (by omega) (by omega)
  have hmk2 := run_make_row' (P := Try.prog) 24 3 (.int .i64 0) 8 Try.underlying24 Try.info3 rfl .i64 .i64 n (by omega) (by omega)
  go_enter Try.func3, Try.ntmps3
  go_wp2_with fail
  refine (bytes_any _ _ _ _ _ _ _ _ _ _ _ _ _ _ _ _ _ _ (by unfold maxLen; omega) (by unfold maxLen; omega) (by unfold maxLen; omega) (by unfold maxLen; omega)).mono ?_
  rintro e w1 ⟨rfl, hw1⟩
  rw [hw1]
  clear hw1 w1
  have hd : decide (r + n + n + n ≤ 1048576) = true := decide_eq_true (by omega)
  rw [hd]
  clear hd
  go_wp2_with fail
  refine (attrs_any (r : Int) n a1 c1 a2 c2 a3 c3 (fun j => z2.getD j 0) (fun j => z3.getD j 0) w hn (by omega) (by omega) HC2.out.rd HC3.out.rd).mono ?_
  rintro e w1 ⟨rfl, q, hw1⟩
  have hb1 : Below w.heap.size w w1 := by rw [hw1]; exact below_drewN (Below.refl _ _) q
  clear hw1
  cases hav : allv (r : Int) (fun j => z2.getD j 0) (fun j => z3.getD j 0) n with
  | false =>
    go_wp2_with fail
    go_ret
    exact ⟨rfl, hb1⟩
  | true =>
  go_wp2_with fail
  refine (one_any (r : Int) off ln w1 (by omega) (by omega)).mono ?_
  rintro e w2 ⟨rfl, hw2⟩
  rw [hw2]
  clear hw2 w2
  cases hov : ov (r : Int) off ln with
  | false =>
    go_wp2_with fail
    go_ret
    exact ⟨rfl, hb1⟩
  | true =>
  obtain ⟨ho1, ho2, ho3⟩ := (ov_iff _ _ _).1 hov
  have HV : Hid (∀ j, j < n → 0 ≤ z2.getD j 0 ∧ 0 ≤ z3.getD j 0 ∧ z2.getD j 0 + 4 + z3.getD j 0 ≤ (r : Int)) := fun j hj => (ov_iff _ _ _).1 ((allv_iff _ _ _ _).1 hav j hj)
  clear hov hav
  by_cases hk : 0 ≤ k ∧ k ≤ n
  rotate_left
  · have hk' : k < 0 ∨ (n : Int) < k := by omega
    clear hk
    rcases hk' with hk | hk
    · go_wp2_with fail
      go_ret
      exact ⟨rfl, hb1⟩
    · have hk' : ¬ k < 0 := by omega
      go_wp2_with fail
      go_ret
      exact ⟨rfl, hb1⟩
  obtain ⟨hk0, hk1⟩ := hk
  go_upto_if 83 with fail
  go_cut [1] from 38 to 90 (fun s1 wx => Cop w wx .u16 s1 n (fun j => z1.getD j 0))
  case first =>
    rcases HC1.out.mono hb1 with ⟨h0, hz⟩ | ⟨x, hx, hl, hc⟩
    · subst h0
      subst hz
      go_wp2_with fail
      go_meet
      exact ⟨none, c1, rfl, fun h => by omega, hb1⟩
    · subst hx
      go_upto_region 19 with fail
      iterate 7 go_step
      refine wpList_copy_fresh rfl (.tmp 87) (.tmp 88) 23 23 rfl 25 Try.underlying23 (by kernel_rfl) .u16 x n c1 z1 rfl rfl hl hc ?_
      intro w2 HR2 hb2 hz2
      go_wp2_with fail
      go_meet
      exact ⟨_, n, rfl, fun _ => ⟨_, 0, rfl, fun j hj => by rw [Nat.zero_add]; exact HR2.out.cell hj⟩, hb1.trans (hb2.mono hb1.size)⟩
  case rest =>
    rename World => wA
    obtain ⟨s1a, s1c, rfl, hR1, hb2⟩ := hcut
    have HR1 : Hid (Rd wA .u16 s1a n (fun j => z1.getD j 0)) := hR1
    clear hR1 hb1 hne1 hmk1 HC1
    go_upto_if 92 with fail
    go_cut [2] from 38 to 99 (fun s2 wx => Cop w wx .i64 s2 n (fun j => z2.getD j 0) ∧ Below wA.heap.size wA wx)
    case first =>
      rcases HC2.out.mono hb2 with ⟨h0, hz⟩ | ⟨x, hx, hl, hc⟩
      · subst h0
        subst hz
        go_wp2_with fail
        go_meet
        exact ⟨⟨none, c2, rfl, fun h => by omega, hb2⟩, Below.refl _ _⟩
      · subst hx
        go_upto_region 23 with fail
        iterate 7 go_step
        refine wpList_copy_fresh rfl (.tmp 96) (.tmp 97) 24 24 rfl 3 Try.underlying24 (by kernel_rfl) .i64 x n c2 z2 rfl rfl hl hc ?_
        intro w2 HR2 hb3 hz2
        go_wp2_with fail
        go_meet
        exact ⟨⟨_, n, rfl, fun _ => ⟨_, 0, rfl, fun j hj => by rw [Nat.zero_add]; exact HR2.out.cell hj⟩, hb2.trans (hb3.mono hb2.size)⟩, hb3⟩
    case rest =>
      rename World => wB
      obtain ⟨⟨s2a, s2c, rfl, hR2, hb3⟩, hAB⟩ := hcut
      have HR2 : Hid (Rd wB .i64 s2a n (fun j => z2.getD j 0)) := hR2
      clear hR2 hb2 hne2 HC2
      go_upto_if 101 with fail
      go_cut [3] from 38 to 108 (fun s3 wx => Cop w wx .i64 s3 n (fun j => z3.getD j 0) ∧ Below wB.heap.size wB wx)
      case first =>
        rcases HC3.out.mono hb3 with ⟨h0, hz⟩ | ⟨x, hx, hl, hc⟩
        · subst h0
          subst hz
          go_wp2_with fail
          go_meet
          exact ⟨⟨none, c3, rfl, fun h => by omega, hb3⟩, Below.refl _ _⟩
        · subst hx
          go_upto_region 27 with fail
          iterate 7 go_step
          refine wpList_copy_fresh rfl (.tmp 105) (.tmp 106) 24 24 rfl 3 Try.underlying24 (by kernel_rfl) .i64 x n c3 z3 rfl rfl hl hc ?_
          intro w2 HR3 hb4 hz2
          go_wp2_with fail
          go_meet
          exact ⟨⟨_, n, rfl, fun _ => ⟨_, 0, rfl, fun j hj => by rw [Nat.zero_add]; exact HR3.out.cell hj⟩, hb3.trans (hb4.mono hb3.size)⟩, hb4⟩
      case rest =>
        rename World => wC
        obtain ⟨⟨s3a, s3c, rfl, hR3, hb4⟩, hBC⟩ := hcut
        have hC1 : Hid (Rd wC .u16 s1a n (fun j => z1.getD j 0)) := (HR1.out.mono hAB).mono hBC
        have hC2 : Hid (Rd wC .i64 s2a n (fun j => z2.getD j 0)) := HR2.out.mono hBC
        have hC3 : Hid (Rd wC .i64 s3a n (fun j => z3.getD j 0)) := hR3
        clear hR3 hb3 hne3 HC3 HR1 HR2 hAB hBC hmk2
        obtain ⟨b0, o0, hx0, hc0⟩ := HC0.out.rd.mono hb4 (by omega)
        subst hx0
        have hb0 : b0 < wC.heap.size := by
          have h := hc0 0 (by omega)
          exact World.block_lt_of_cell? _ _ h
        obtain ⟨fr, hfr⟩ : ∃ fr : Nat → Int, fr = fun j => z0.getD j 0 := ⟨_, rfl⟩
        have hc0' : Hid (∀ j, j < r → wC.cell? ⟨b0, o0 + j, none⟩ = some (.int .u8 (fr j))) := by rw [hfr]; exact hc0
        clear hc0 hfr HC0
        go_wp2_with fail
        refine (clone_any r b0 o0 c0 fr wC hr hb0 hc0'.out).mono ?_
        rintro e wD ⟨rfl, hrowD, hb5⟩
        have HRD : Hid (wD.rowIs wC.heap.size 5 r (fun j => .int .u8 (fr j))) := hrowD
        have hzD := hrowD.lt
        clear hrowD hc0' hb0
        go_wp2_with fail
        refine (clone_any r wC.heap.size 0 r fr wD hr hzD (fun j hj => by rw [Nat.zero_add]; exact HRD.out.cell hj)).mono ?_
        rintro e wE ⟨rfl, hrowE, hb6⟩
        have HRE : Hid (wE.rowIs wD.heap.size 5 r (fun j => .int .u8 (fr j))) := hrowE
        have hzE := hrowE.lt
        clear hrowE
        obtain ⟨fy, hfy⟩ : ∃ fy : Nat → Int, fy = fun j => z1.getD j 0 := ⟨_, rfl⟩
        obtain ⟨fo, hfo⟩ : ∃ fo : Nat → Int, fo = fun j => z2.getD j 0 := ⟨_, rfl⟩
        obtain ⟨fl, hfl⟩ : ∃ fl : Nat → Int, fl = fun j => z3.getD j 0 := ⟨_, rfl⟩
        have hbCE : Below wC.heap.size wC wE := hb5.trans (hb6.mono hb5.size)
        have HE1 : Hid (Rd wE .u16 s1a n fy) := by rw [hfy]; exact hC1.out.mono hbCE
        have HE2 : Hid (Rd wE .i64 s2a n fo) := by rw [hfo]; exact hC2.out.mono hbCE
        have HE3 : Hid (Rd wE .i64 s3a n fl) := by rw [hfl]; exact hC3.out.mono hbCE
        have HRD' : Hid (∀ j, j < r → wE.cell? ⟨wC.heap.size, j, none⟩ = some (.int .u8 (fr j))) := fun j hj => cell_later hb6 (HRD.out.cell hj)
        have HRE' : Hid (∀ j, j < r → wE.cell? ⟨wD.heap.size, j, none⟩ = some (.int .u8 (fr j))) := fun j hj => HRE.out.cell hj
        have HVE : Hid (∀ j, j < n → 0 ≤ fo j ∧ 0 ≤ fl j ∧ fo j + 4 + fl j ≤ (r : Int)) := by rw [hfo, hfl]; exact HV.out
        have hbE : Below w.heap.size w wE := hb4.trans (hbCE.mono hb4.size)
        clear hC1 hC2 hC3 HRD HRE HV hbCE hb4 hb5 hb6 hfy hfo hfl
        obtain ⟨k', hk'⟩ := Int.eq_ofNat_of_zero_le hk0
        subst hk'
        have hmkA : ∀ w, (Instr.makeSlice 23 (.int .i64 ((n : Int) + 1)) (.int .i64 ((n : Int) + 1))).run Try.prog w = .ok (.slice (some ⟨w.heap.size, 0, none⟩) (n + 1) (n + 1)) (w.alloc (.cells (madeCells #[.int .u16 0] (n + 1)) 25)) := fun w => by
          have h := run_make_row' (P := Try.prog) 23 25 (.int .u16 0) 2 Try.underlying23 Try.info25 rfl .i64 .i64 (n + 1) (by omega) (by omega) w
          rwa [show ((n + 1 : Nat) : Int) = (n : Int) + 1 from by omega] at h
        have hmkB : ∀ w, (Instr.makeSlice 24 (.int .i64 ((n : Int) + 1)) (.int .i64 ((n : Int) + 1))).run Try.prog w = .ok (.slice (some ⟨w.heap.size, 0, none⟩) (n + 1) (n + 1)) (w.alloc (.cells (madeCells #[.int .i64 0] (n + 1)) 3)) := fun w => by
          have h := run_make_row' (P := Try.prog) 24 3 (.int .i64 0) 8 Try.underlying24 Try.info3 rfl .i64 .i64 (n + 1) (by omega) (by omega) w
          rwa [show ((n + 1 : Nat) : Int) = (n : Int) + 1 from by omega] at h
        go_wp2_with fail
        clear hmkA hmkB
        go_loopw [27] (fun c wr => ∃ p : Nat, p ≤ k' ∧ c = .int .i64 p ∧ Fill wE wr n p (ins fy k' u) (ins fo k' off) (ins fl k' ln)) (fun c _ => k' - (intOf c).toNat)
        case atStart => exact ⟨0, Nat.zero_le _, rfl, Fill.start wE n _ _ _⟩
        case round =>
          obtain ⟨p, hp, rfl, HF⟩ := hrel
          have hbw := HF.2.2.2
          by_cases hlt : p < k'
          · obtain ⟨b1, o1, e1, p1, l1⟩ := HE1.out.at hbw (j := p) (by omega)
            obtain ⟨b2, o2, e2, p2, l2⟩ := HE2.out.at hbw (j := p) (by omega)
            obtain ⟨b3, o3, e3, p3, l3⟩ := HE3.out.at hbw (j := p) (by omega)
            obtain ⟨⟨r1, r2, r3⟩, f1, f2, f3⟩ := HF.ready (j := p) (by omega)
            have hpk : (p : Int) < (k' : Int) := by omega
            have hpn : (p : Int) < (n : Int) := by omega
            have hpn1 : (p : Int) < (n : Int) + 1 := by omega
            subst e1
            subst e2
            subst e3
            go_wp2
            go_roundw
            case rel => exact ⟨p + 1, by omega, by go_num, HF.step (by rw [ins_lt hlt]) (by rw [ins_lt hlt]) (by rw [ins_lt hlt])⟩
            case measure => simp [intOf]; omega
          · obtain rfl : p = k' := by omega
            have hle : ¬ (p : Int) < (p : Int) := by omega
            obtain ⟨⟨r1, r2, r3⟩, f1, f2, f3⟩ := HF.ready (j := p) (by omega)
            have hpn1 : (p : Int) < (n : Int) + 1 := by omega
            clear hbw hlt hp
            go_wp2_with fail
            obtain ⟨w4, hw4⟩ : ∃ w4, w4 = (((wr.setCell ⟨wE.heap.size, p, none⟩ (.int .u16 u)).setCell ⟨wE.heap.size + 1, p, none⟩ (.int .i64 off)).setCell ⟨wE.heap.size + 1 + 1, p, none⟩ (.int .i64 ln)) := ⟨_, rfl⟩
            rw [← hw4]
            have HF4 : Fill wE w4 n (p + 1) (ins fy p u) (ins fo p off) (ins fl p ln) := by rw [hw4]; exact HF.step ins_at.symm ins_at.symm ins_at.symm
            clear hw4 HF r1 r2 r3 f1 f2 f3
            go_loopw [28] (fun c wr => ∃ x : Nat, p ≤ x ∧ x ≤ n ∧ c = .int .i64 x ∧ Fill wE wr n (x + 1) (ins fy p u) (ins fo p off) (ins fl p ln)) (fun c _ => n - (intOf c).toNat)
            case atStart => exact ⟨p, Nat.le_refl _, by omega, rfl, HF4⟩
            case round =>
              obtain ⟨x, hx0, hx, rfl, HF⟩ := hrel
              have hbw := HF.2.2.2
              by_cases hlt : x < n
              · obtain ⟨b1, o1, e1, p1, l1⟩ := HE1.out.at hbw (j := x) (by omega)
                obtain ⟨b2, o2, e2, p2, l2⟩ := HE2.out.at hbw (j := x) (by omega)
                obtain ⟨b3, o3, e3, p3, l3⟩ := HE3.out.at hbw (j := x) (by omega)
                obtain ⟨⟨r1, r2, r3⟩, f1, f2, f3⟩ := HF.ready (j := x + 1) (by omega)
                have hpn : (x : Int) < (n : Int) := by omega
                have hpn2 : (x : Int) + 1 < (n : Int) + 1 := by omega
                subst e1
                subst e2
                subst e3
                go_wp2
                go_roundw
                case rel => exact ⟨x + 1, by omega, by omega, by go_num, HF.step (by rw [ins_ge hx0]) (by rw [ins_ge hx0]) (by rw [ins_ge hx0])⟩
                case measure => simp [intOf]; omega
              · obtain rfl : x = n := by omega
                clear hlt hx HF4
                go_wp2_with fail
                refine (message_any x r wC.heap.size s1a s1c s2a s2c s3a s3c fy fo fl wr (by omega) (HE1.out.mono hbw) (HE2.out.mono hbw) (HE3.out.mono hbw)).mono ?_
                rintro e wF ⟨jb1, rfl, hpm1, hbF⟩
                have HP1 : Hid (PM wF jb1 wC.heap.size r x fy fo fl) := hpm1
                have hF1 : Rd wF .u16 (some ⟨wE.heap.size, 0, none⟩) (x + 1) (ins fy p u) := (rd_of_fill HF.1).mono hbF
                have hF2 : Rd wF .i64 (some ⟨wE.heap.size + 1, 0, none⟩) (x + 1) (ins fo p off) := (rd_of_fill HF.2.1).mono hbF
                have hF3 : Rd wF .i64 (some ⟨wE.heap.size + 1 + 1, 0, none⟩) (x + 1) (ins fl p ln) := (rd_of_fill HF.2.2.1).mono hbF
                have HF1 : Hid (Rd wF .u16 (some ⟨wE.heap.size, 0, none⟩) (x + 1) (ins fy p u)) := hF1
                have HF2 : Hid (Rd wF .i64 (some ⟨wE.heap.size + 1, 0, none⟩) (x + 1) (ins fo p off)) := hF2
                have HF3 : Hid (Rd wF .i64 (some ⟨wE.heap.size + 1 + 1, 0, none⟩) (x + 1) (ins fl p ln)) := hF3
                have hEF : Below wE.heap.size wE wF := hbw.trans (hbF.mono hbw.size)
                clear hpm1 hF1 hF2 hF3 HF hbw hbF
                go_wp2_with fail
                refine (message_any (x + 1) r wC.heap.size (some ⟨wE.heap.size, 0, none⟩) (x + 1) (some ⟨wE.heap.size + 1, 0, none⟩) (x + 1) (some ⟨wE.heap.size + 1 + 1, 0, none⟩) (x + 1) (ins fy p u) (ins fo p off) (ins fl p ln) wF (by omega) HF1.out HF2.out HF3.out).mono ?_
                rintro e wG ⟨jb2, rfl, hpm2, hbG⟩
                have HP2 : Hid (PM wG jb2 wC.heap.size r (x + 1) (ins fy p u) (ins fo p off) (ins fl p ln)) := hpm2
                have HP1' : Hid (PM wG jb1 wC.heap.size r x fy fo fl) := HP1.out.mono hbG
                have hEG : Below wE.heap.size wE wG := hEF.trans (hbG.mono hEF.size)
                clear hpm2 HP1 HF1 HF2 HF3 hEF hbG
                obtain ⟨okb, Lb, sb, oka, La, sa, gb, ga, hcases⟩ := five fy fo fl x p t u off ln hx0 (fun j hj => ⟨(HVE.out j hj).1, (HVE.out j hj).2.1⟩) ho1 ho2
                have GB : Hid (GA fy fo fl x t okb Lb sb) := gb
                have G2 : Hid (GA (ins fy p u) (ins fo p off) (ins fl p ln) (x + 1) t oka La sa) := ga
                have HCS : Hid (Ways fy x p t u off ln okb Lb sb oka La sa) := hcases
                clear gb ga hcases
                go_wp2_with fail
                refine (get_any jb1 wC.heap.size r x fy fo fl t okb Lb sb wG (by omega) hr HP1'.out GB.out HVE.out).mono ?_
                rintro e wH ⟨⟨vba, vbc, rfl, hvb⟩, hbH⟩
                have HVB : Hid (0 < Lb → vba = some ⟨wC.heap.size, sb, none⟩ ∧ sb + Lb ≤ r) := hvb
                clear hvb
                go_wp2_with fail
                refine (get_any jb2 wC.heap.size r (x + 1) (ins fy p u) (ins fo p off) (ins fl p ln) t oka La sa wH (by omega) hr (HP2.out.mono hbH) G2.out (ins_valid hx0 HVE.out ⟨ho1, ho2, ho3⟩)).mono ?_
                rintro e wI ⟨⟨vaa, vac, rfl, hva⟩, hbI⟩
                have HVA : Hid (0 < La → vaa = some ⟨wC.heap.size, sa, none⟩ ∧ sa + La ≤ r) := hva
                have hEH : Below wE.heap.size wE wH := hEG.trans (hbH.mono hEG.size)
                have hEI : Below wE.heap.size wE wI := hEH.trans (hbI.mono hEH.size)
                have HI1 : Hid (Rd wI .u16 s1a x fy) := HE1.out.mono hEI
                have HRW : Hid (∀ j, j < r → wI.cell? ⟨wC.heap.size, j, none⟩ = some (.int .u8 (fr j))) := fun j hj => cell_later hEI (HRD'.out j hj)
                have HEX : Hid (∀ j, j < r → wI.cell? ⟨wD.heap.size, j, none⟩ = some (.int .u8 (fr j))) := fun j hj => cell_later hEI (HRE'.out j hj)
                have hbW : Below w.heap.size w wI := hbE.trans (hEI.mono hbE.size)
                clear hva hEG hEH hEI hbH hbI HE1 HE2 HE3 HRD' HRE' hbE HP1' HP2 GB G2 HVE
                go_wp2_with fail
                rcases HCS.out with ⟨e1, hnf, e2, hut, e3, e4⟩ | ⟨e1, hnf, e2, hut, e3, e4⟩ | ⟨e1, e2, e3, e4, hut, j, hj1, hj2, hj3⟩ | ⟨e1, e2, hut, e3, e4, j, ⟨hj1, hj2, hj3⟩, hkj⟩ | ⟨e1, e2, hut, e3, e4, j, ⟨hj1, hj2, hj3⟩, hkj⟩
                · subst e1
                  subst e2
                  subst e3
                  subst e4
                  have hut' : (u == t) = false := by simpa using hut
                  have HNF : Hid (NF fy x t) := hnf
                  clear hut hnf HCS
                  refine (first_no x s1a s1c fy t wI (by omega) HI1.out HNF.out).mono ?_
                  rintro e wJ ⟨rfl, hwJ⟩
                  rw [hwJ]
                  clear hwJ wJ
                  go_wp2_with fail
                  refine (eq_any 0 vaa vac vba vbc fr wI (by omega) (fun h => by omega) (fun h => by omega)).mono ?_
                  rintro e wJ ⟨rfl, q', hwJ⟩
                  rw [hwJ]
                  clear hwJ wJ
                  go_wp2_with fail
                  go_ret
                  exact ⟨rfl, below_drewN hbW _⟩
                · subst e1
                  subst e2
                  obtain ⟨off', hoff⟩ := Int.eq_ofNat_of_zero_le ho1
                  subst hoff
                  subst e3
                  have hut' : (u == t) = true := by simpa using hut
                  have HNF : Hid (NF fy x t) := hnf
                  have HSA : Hid ((sa : Int) = (off' : Int) + 4) := e4
                  have b1 : (off' : Int) + 4 ≤ (r : Int) := by omega
                  clear hut hnf HCS e4
                  refine (first_no x s1a s1c fy t wI (by omega) HI1.out HNF.out).mono ?_
                  rintro e wJ ⟨rfl, hwJ⟩
                  rw [hwJ]
                  clear hwJ wJ
                  go_wp2_with fail
                  all_goals
                    have HS2 : (sa : Int) = (off' : Int) + 4 := HSA.out
                    refine (eq_any La vaa vac _ _ (fun j => fr (sa + j)) wI (by omega) (rd_of_row HRW.out HVA.out) (rd_of_row (st := sa) HEX.out (fun h => ⟨by first | (exfalso; omega) | (rw [show sa = off' + 4 from by omega]), by omega⟩))).mono ?_
                    rintro e wJ ⟨rfl, q', hwJ⟩
                    rw [hwJ]
                    clear hwJ wJ
                    go_wp2_with fail
                    go_ret
                    exact ⟨rfl, below_drewN hbW _⟩
                · subst e1
                  subst e2
                  subst e3
                  subst e4
                  have hut' : (u == t) = false := by simpa using hut
                  have HJ : Hid (fy j = t ∧ ∀ q, q < j → fy q ≠ t) := ⟨hj2, hj3⟩
                  have HB2 : La ≤ 1048576 := by
                    by_cases h : 0 < La
                    · have := (HVA.out h).2; omega
                    · omega
                  clear hut hj2 hj3 HCS
                  refine (first_yes x j s1a s1c fy t wI (by omega) HI1.out hj1 HJ.out.1 HJ.out.2).mono ?_
                  rintro e wJ ⟨rfl, hwJ⟩
                  rw [hwJ]
                  clear hwJ wJ
                  go_wp2_with fail
                  refine (eq_any La vaa vac vba vbc (fun j => fr (sa + j)) wI (by have := HB2; omega) (rd_of_row HRW.out HVA.out) (rd_of_row HRW.out HVB.out)).mono ?_
                  rintro e wJ ⟨rfl, q', hwJ⟩
                  rw [hwJ]
                  clear hwJ wJ
                  go_wp2_with fail
                  go_ret
                  exact ⟨rfl, below_drewN hbW _⟩
                · subst e1
                  subst e2
                  obtain ⟨off', hoff⟩ := Int.eq_ofNat_of_zero_le ho1
                  subst hoff
                  subst e3
                  have hut' : (u == t) = true := by simpa using hut
                  have HSA : Hid ((sa : Int) = (off' : Int) + 4) := e4
                  have b1 : (off' : Int) + 4 ≤ (r : Int) := by omega
                  have HJ : Hid (fy j = t ∧ ∀ q, q < j → fy q ≠ t) := ⟨hj2, hj3⟩
                  have b2 : ¬ (j : Int) < 0 := by omega
                  have b3 : (p : Int) ≤ (j : Int) := by omega
                  clear hut HCS e4 hj2 hj3
                  refine (first_yes x j s1a s1c fy t wI (by omega) HI1.out hj1 HJ.out.1 HJ.out.2).mono ?_
                  rintro e wJ ⟨rfl, hwJ⟩
                  rw [hwJ]
                  clear hwJ wJ
                  go_wp2_with fail
                  all_goals
                    have HS2 : (sa : Int) = (off' : Int) + 4 := HSA.out
                    refine (eq_any La vaa vac _ _ (fun j => fr (sa + j)) wI (by omega) (rd_of_row HRW.out HVA.out) (rd_of_row (st := sa) HEX.out (fun h => ⟨by first | (exfalso; omega) | (rw [show sa = off' + 4 from by omega]), by omega⟩))).mono ?_
                    rintro e wJ ⟨rfl, q', hwJ⟩
                    rw [hwJ]
                    clear hwJ wJ
                    go_wp2_with fail
                    go_ret
                    exact ⟨rfl, below_drewN hbW _⟩
                · subst e1
                  subst e2
                  subst e3
                  subst e4
                  have hut' : (u == t) = true := by simpa using hut
                  have HJ : Hid (fy j = t ∧ ∀ q, q < j → fy q ≠ t) := ⟨hj2, hj3⟩
                  have HB2 : La ≤ 1048576 := by
                    by_cases h : 0 < La
                    · have := (HVA.out h).2; omega
                    · omega
                  have b2 : ¬ (j : Int) < 0 := by omega
                  have b3 : ¬ (p : Int) ≤ (j : Int) := by omega
                  clear hut hj2 hj3 HCS
                  refine (first_yes x j s1a s1c fy t wI (by omega) HI1.out hj1 HJ.out.1 HJ.out.2).mono ?_
                  rintro e wJ ⟨rfl, hwJ⟩
                  rw [hwJ]
                  clear hwJ wJ
                  go_wp2_with fail
                  refine (eq_any La vaa vac vba vbc (fun j => fr (sa + j)) wI (by have := HB2; omega) (rd_of_row HRW.out HVA.out) (rd_of_row HRW.out HVB.out)).mono ?_
                  rintro e wJ ⟨rfl, q', hwJ⟩
                  rw [hwJ]
                  clear hwJ wJ
                  go_wp2_with fail
                  go_ret
                  exact ⟨rfl, below_drewN hbW _⟩

end Go.Proofs.Qxb6618334a
