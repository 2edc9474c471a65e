import Derived.Test.Qxb6618769aFmtSplit
namespace Go.Proofs.Qxb6618769aFmt
open Go.RowKit
set_option linter.unusedVariables false
set_option maxRecDepth 100000

set_option maxHeartbeats 1000000 in
/-- bytes.Clone of a slice that is not empty. -/
theorem bclone (b o L cp : Nat) (f : Nat → Int) (w : World) (hL : 0 < L) (hLm : L ≤ 1048576) (hc : ∀ j, j < L → w.cell? ⟨b, o + j, none⟩ = some (.int .u8 (f j))) :
    Calls Tryf.prog 20 #[.slice (some ⟨b, o, none⟩) L cp] w fun e w' => ∃ g cap, e = .returned (.slice (some ⟨g, 0, none⟩) L cap) ∧ w.heap.size ≤ g ∧ (∀ j, j < L → w'.cell? ⟨g, j, none⟩ = some (.int .u8 (f j))) ∧ (∃ cs, w'.heap[g]? = some (.cells cs 5 (0, 0))) ∧ Below w.heap.size w w' := by
  have hne := fun w => Lib.run_eql_slice_nil (P := Tryf.prog) w 22 5 (some ⟨b, o, none⟩) L cp 0 0 Tryf.underlying22
  obtain ⟨i0, hi, hz0, hz1, hz2⟩ := info_parts info5
  have HI : Hid (Tryf.prog.info? 5 = some i0 ∧ i0.zero = some (.int .u8 0) ∧ i0.size = 1 ∧ i0.bytes = 1) := ⟨hi, hz0, hz1, hz2⟩
  have HC : Hid (∀ j, j < L → w.cell? ⟨b, o + j, none⟩ = some (.int .u8 (f j))) := hc
  clear hi hz0 hz1 hz2 hc
  go_enter Tryf.func20, Tryf.ntmps20
  go_upto_region 3 with fail
  iterate 7 go_step
  have hk : Kp (fun _ => False) w (w.alloc (.cells #[] 5)) := (Kp.refl _ _).alloc _
  refine wpList_append_lies (w.alloc (.cells #[] 5)) rfl (.tmp 5) (.tmp 6) 22 rfl w.heap.size 5 i0 (.int .u8 0) 1 1 Tryf.underlying22 HI.out.1 HI.out.2.1 HI.out.2.2.1 HI.out.2.2.2 rfl (by decide) (.slice (some ⟨w.heap.size, 0, none⟩) 0 0) 0 [] rfl ?h1 ⟨b, o, none⟩ L cp ((List.range L).map fun j => .int .u8 (f j)) rfl (by simp) ?h2 ?h3 hL (by unfold maxLen; omega) (by omega) hk.size _ rfl ?_
  case h1 => exact ⟨rfl, .inr ⟨w.heap.size, 0, #[], rfl, Nat.le_refl _, Deep.blk_alloc_new w _, Nat.le_refl _, by decide, rfl, rfl⟩⟩
  case h2 =>
    intro j u hj
    have hjL : j < L := by have := (List.getElem?_eq_some_iff.1 hj).1; simpa using this
    rw [List.getElem?_map, List.getElem?_range hjL] at hj
    have e : (⟨b, o, none⟩ : Addr).add j = ⟨b, o + j, none⟩ := by unfold Addr.add; split <;> simp_all
    rw [e, hk.cell id (HC.out j hjL)]
    simpa using hj
  case h3 =>
    intro u hu
    obtain ⟨j, _, rfl⟩ := List.mem_map.1 hu
    rfl
  intro g cap w1 hown1 hgrow1 hat1 hlt1
  have HO : Hid (w1.ownsRow w.heap.size 5 1 (.slice (some ⟨g, 0, none⟩) (0 + L) cap) (0 + L) ([] ++ (List.range L).map fun j => .int .u8 (f j))) := hown1
  have hbel : Below w.heap.size w w1 := ⟨hgrow1.os.trans hk.os, hgrow1.tape.trans hk.tape, hgrow1.output.trans hk.output, Nat.le_trans hk.size hgrow1.size, fun y hy => (hgrow1.block y (Nat.lt_of_lt_of_le hy hk.size) (fun e => by simp [Value.ownBlock] at e; omega)).trans (hk.block y hy id)⟩
  clear hown1 hgrow1 hk
  go_wp2
  go_ret
  have ho := HO.out
  rw [Nat.zero_add, List.nil_append] at ho
  refine ⟨g, cap, rfl, ?_, fun j hj => ?_, ?_, hbel⟩
  · rcases hat1 with h | h
    · simp [Value.ownBlock] at h; omega
    · rw [h, Deep.nblk_alloc]; omega
  · rw [ho.cellAt j (by omega), List.getElem?_map, List.getElem?_range hj]; rfl
  · rcases ho.2 with ⟨h', _⟩ | ⟨g', cap', cur, h', _, hgg, _⟩
    · simp at h'
    · simp only [Value.slice.injEq, Option.some.injEq, Addr.mk.injEq, and_true, true_and] at h'
      obtain ⟨rfl, rfl⟩ := h'
      exact ⟨cur, hgg⟩
end Go.Proofs.Qxb6618769aFmt
