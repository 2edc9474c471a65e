import Derived.Test.Qxb6618769aFmtMainA
import Derived.Test.Qxb6618769aFmtMainB
import Derived.Test.Qxb6618769aFmtTie
import Derived.Test.Qxb6618769aFmtCards
import Derived.ProofKit
import Derived.Stop.LaidErr
import Derived.Stop.JoinedTold
import Derived.Stop.JoinedAt
import Derived.LaidMore
import Derived.Deep.DeepWitnessRef
import Derived.SevenTiedAt
import Derived.OpenShut
namespace Go.Proofs.Qxb6618769aFmt
open Go.ChangeShapes Go.WideShapes Go.ChangeAt Go.RowKit
open Go.Extern.Stop Go.Stop Go.Extern
set_option linter.unusedVariables false

theorem own : ownKnob Tryf.prog.godebug = none := by kernel_rfl
/-- The name of the sentinels' kind: a pointer at errors.errorString. -/
def starName : String := String.singleton (Char.ofNat 42) ++ "errors.errorString"
theorem row68 {q : String} (hq : q = starName) (u : TypeId) (h : Tryf.prog.typeName? 3 u = some q) : u = 68 := by
  subst hq
  exact typeName_ptr_named (nm := "errors.errorString") (by kernel_rfl) (by kernel_rfl) (by decide) u (h.trans (congrArg some (by decide)))

/-- A listed sentinel: its cell, its text, its block. -/
theorem laid_sen {n q : String} (hq : q = starName) {text : List UInt8} {r : List (String × DataW Unit)} {W : World} {g : Nat} (h : laidMet Tryf.prog ((n, .iface q (.ptr (.agg [.lit (.string text)]))) :: r) W)
    (hg : Tryf.prog.globalNamed n = some g) (ht : (Tryf.prog.globals[g]?).map (·.type) = some 37) :
    ∃ (a : Addr) (s : ByteArray), W.cell? ⟨g, 0, none⟩ = some (.iface 68 (.pointer (some a))) ∧ W.cell? a = some (.string s) ∧ s.data.toList = text ∧ ∃ c t, W.heap[a.block]? = some (.cells c t (0, 0)) := by
  obtain ⟨ps, ⟨g0, t0, cs0, f0, p0, q0, hg0, ht0, hv0, hd0, _, e0⟩, _, hrows⟩ := h
  obtain rfl := Option.some.inj (hg.symm.trans hg0)
  obtain rfl := Option.some.inj (ht.symm.trans ht0)
  subst e0
  obtain ⟨l0⟩ := cs0
  have ok0 : ∀ u v, l0 = [.iface u v] → Value.okWide Tryf.prog W .any 0 u v := fun u v e => by
    subst e
    exact (hrows g 0 (by simp [MemPlace.row])).2 u v (by simpa using World.var?_cell hg0 hv0 0)
  obtain ⟨a, s, rfl, hc, hs, hz, rfl⟩ := errorString_of_trod Tryf.underlying37 (row68 hq) Tryf.underlying68 Tryf.underlying70 rfl rfl Tryf.underlying9 (by kernel_rfl) (by kernel_rfl) hd0 ok0
  exact ⟨a, s, by simpa using World.var?_cell hg0 hv0 0, hc, hs, (hrows a.block a.off (by simp [MemPlace.row])).1⟩

theorem sen_of_laid {W : World} (h8 : 8 ≤ W.heap.size) (h : laidMet Tryf.prog Rows.fnReadFramesScriptYieldsEveryWholeMessageRow.laid W) : ∃ ae au su, Sen W.heap.size ae au su W := by
  have h1 := laidMet.tail h
  have h2 := laidMet.tail h1
  obtain ⟨ae, s1, e1, c1, t1, k1, y1, b1⟩ := laid_sen (g := 0) (by decide) h1 (by kernel_rfl) (by kernel_rfl)
  obtain ⟨au, s2, e2, c2, t2, k2, y2, b2⟩ := laid_sen (g := 2) (by decide) h2 (by kernel_rfl) (by kernel_rfl)
  refine ⟨ae, au, s2, e1, e2, ?_, ⟨k1, y1, b1⟩, ⟨k2, y2, b2⟩, c2, h8, lt_of_block b1, lt_of_block b2⟩
  rintro rfl
  rw [c1] at c2
  have e : s1 = s2 := by simpa using c2
  rw [e, t2] at t1
  exact absurd t1 (by decide)

theorem laidOut : laidOutB Tryf.prog = true := by kernel_rfl
theorem laid8 {W : World} (h : laidMet Tryf.prog Rows.fnReadFramesScriptYieldsEveryWholeMessageRow.laid W) : 8 ≤ W.heap.size := by
  obtain ⟨a, s1, e1, _⟩ := laid_sen (g := 7) (by decide) h (by kernel_rfl) (by kernel_rfl)
  exact World.block_lt_of_cell? _ _ e1
theorem door_met (os : Os) (args : Array Value) : laidMetH Tryf.prog Rows.fnReadFramesScriptYieldsEveryWholeMessageRow.laid ((World.doorLaid Tryf.prog 142 os).forCall (fun _ _ => 0) ⟨#[], args, []⟩).memory :=
  laidMetH_of_parts3 (fuel := 8) (laidMet_of_run' 8 (by kernel_rfl) (by kernel_rfl)) (by kernel_rfl) (by kernel_rfl)

/-- The argument, opened. -/
theorem arg_of {H : Type} {enc : TypeId × Value → H} {W : World} {a0 : Option Addr} {n c : Nat} {d : DataW H} {p : List MemPlace} (h : DataW.Trod enc Tryf.prog W 0 (fun _ => true) true 22 (.slice a0 n c) d p) :
    ∃ f : Nat → Int, (∀ j, 0 ≤ f j ∧ f j < 256) ∧ Arg W a0 n c f := by
  obtain ⟨fuel, hf⟩ := h
  rcases open_ints Tryf.underlying22 Tryf.underlying5 (by kernel_rfl) hf with ⟨hcs, _⟩ | ⟨x, l, c', zs, hcs, _, hl, hm, hz, _, hcell, hwz⟩
  · simp [Value.cells] at hcs
    obtain ⟨rfl, rfl, rfl⟩ := hcs
    exact ⟨fun _ => 0, fun _ => ⟨Int.le_refl 0, by show (0 : Int) < 256; decide⟩, .inl ⟨rfl, rfl, rfl⟩⟩
  · simp [Value.cells] at hcs
    obtain ⟨rfl, rfl, rfl⟩ := hcs
    have hl' : n ≤ zs.length := by have hz' : zs.length = c := (by simpa using hz); omega
    refine ⟨fun j => zs.getD j 0, fun j => ?_, ?_⟩
    · show 0 ≤ zs.getD j 0 ∧ zs.getD j 0 < 256
      rw [List.getD_eq_getElem?_getD]
      cases hj : zs[j]? with
      | none => exact ⟨Int.le_refl 0, by decide⟩
      | some z =>
        have hw := hwz z (List.mem_of_getElem? hj)
        have e1 : IntKind.u8.min = 0 := rfl
        have e2 : IntKind.u8.max = 255 := rfl
        simp [Lit.wf, e1, e2] at hw
        simp
        omega
    · by_cases hn : n = 0
      · exact .inr (.inl ⟨hn, _, rfl⟩)
      · obtain ⟨b, off, rfl, h⟩ := ints_at hcell (by omega)
        exact .inr (.inr ⟨b, off, rfl, World.block_lt_of_cell? _ _ (h 0 (by omega)), fun j hj => h j (by omega)⟩)

theorem witness3 (os : Os) {H : Type} (enc : TypeId × Value → H) :
    (OpenSpec.ofChange Rows.fnReadFramesScriptYieldsEveryWholeMessageSpec).preRow enc Tryf.prog Tryf.f3 Rows.fnReadFramesScriptYieldsEveryWholeMessageRow.domain false Rows.fnReadFramesScriptYieldsEveryWholeMessageRow.laid ((World.doorLaid Tryf.prog 142 os).forCall (fun _ _ => 0) ⟨#[], #[.slice none 0 0, .int .i64 0], []⟩).memory #[.slice none 0 0, .int .i64 0] := by
  have hw : (DataW.whole enc Tryf.prog ((World.doorLaid Tryf.prog 142 os).forCall (fun _ _ => 0) ⟨#[], #[.slice none 0 0, .int .i64 0], []⟩).memory Tryf.f3.params.toList (OpenSpec.ofChange Rows.fnReadFramesScriptYieldsEveryWholeMessageSpec).vars false #[Value.slice none 0 0, .int .i64 0].toList 8).map (fun x => (x.1, x.2.1)) =
      some ([.nil, .lit (.int .i64 0)], []) := by kernel_rfl
  obtain ⟨⟨x1, x2, x3⟩, hx, hx1⟩ := Option.map_eq_some_iff.1 hw
  simp only [Prod.mk.injEq] at hx1
  obtain ⟨rfl, rfl⟩ := hx1
  exact OpenSpec.preRow_of_cond 8 hx (by kernel_rfl) (fun k hk => by cases hk) (by kernel_rfl) (door_met os _)

set_option maxRecDepth 100000 in
theorem lifted3 (os : Os) (started : os.Started) (H : Type) (enc : TypeId × Value → H) :
    ReturnsInTold none {} Tryf.checked os 3 .any Input.okWide ((OpenSpec.ofChange Rows.fnReadFramesScriptYieldsEveryWholeMessageSpec).preRow enc Tryf.prog Tryf.f3 Rows.fnReadFramesScriptYieldsEveryWholeMessageRow.domain false Rows.fnReadFramesScriptYieldsEveryWholeMessageRow.laid) (fun F => ((OpenSpec.ofChange Rows.fnReadFramesScriptYieldsEveryWholeMessageSpec).at F).post enc Tryf.prog Tryf.f3 false true false false) (aloneAtReturn Tryf.prog) nothingAlways := by
  refine returnsInTold_of_row (C := Tryf.checked) (s := (OpenSpec.ofChange Rows.fnReadFramesScriptYieldsEveryWholeMessageSpec)) (by kernel_rfl) own started (by kernel_rfl) Tryf.func3
    (OpenSpec.witness_stopped_atRef (enc := enc) (C := Tryf.checked) false (World.doorLaid Tryf.prog 142 os) #[.slice none 0 0, .int .i64 0] rfl (by kernel_rfl) (by kernel_rfl) (by kernel_rfl) (witness3 os enc)) ?_
  intro F W base args ds gs before _ hF hval0 hW _ _ _ hL _
  have hval : ∀ (j : Nat) t v, Tryf.f3.params[j]? = some t → args[j]? = some v → Value.okWide Tryf.prog W .any base t v := hval0
  have hW' := hW
  obtain ⟨p, q, hA0, hV, rfl, hfz, hnd⟩ := hW
  have hA : DataW.TrodAll enc Tryf.prog W 0 (fun _ => true) true Tryf.f3.params.toList args.toList ds p := hA0
  rw [Tryf.params3] at hA hval
  obtain ⟨v0, v1, d0, d1, p0, p1, rfl, rfl, rfl, h0, h1⟩ := trodAll_two hA
  obtain ⟨rfl, rfl⟩ := trodVars_none hV
  obtain ⟨a0, len0, cap0, rfl⟩ := okWide_slice Tryf.underlying22 (hval 0 22 v0 rfl rfl)
  have k0 := h0
  have lt0 : ∀ x ∈ p0, x.block < W.heap.size := by obtain ⟨m, hm⟩ := k0; exact DataW.trod_lt m _ _ _ hm
  obtain ⟨f, hf, w0⟩ := arg_of h0
  obtain ⟨a1, rfl, rfl, rfl, w1⟩ := open_int Tryf.underlying3 (hval 1 3 v1 rfl rfl) h1
  clear hA0 hval0
  rw [MakeChecks.laidMetH_plain _ _ _ (by kernel_rfl)] at hL
  obtain ⟨ae, au, su, hS⟩ := sen_of_laid (laid8 hL) hL
  refine (main3 F.told a0 len0 cap0 f a1 ae au su W hS hF hf w0).mono fun e W' ⟨he, bel⟩ => ?_
  subst he
  exact ⟨_, rfl, _, _, _, [], _, [], hW', trodAll_mk1 (shut_bool Tryf.underlying4 _), trodAll_mk2 (Below.trod laidOut (by kernel_rfl) (of_decide_eq_true (by kernel_rfl)) k0 bel lt0) (shut_int Tryf.underlying3 w1), rfl, bel.frame _, fun h => by cases h⟩

theorem witness4 (os : Os) {H : Type} (enc : TypeId × Value → H) :
    (OpenSpec.ofChange Rows.fnReadFramesTakesAllThatCameInOneReadSpec).preRow enc Tryf.prog Tryf.f4 Rows.fnReadFramesTakesAllThatCameInOneReadRow.domain false Rows.fnReadFramesTakesAllThatCameInOneReadRow.laid ((World.doorLaid Tryf.prog 142 os).forCall (fun _ _ => 0) ⟨#[], #[.slice none 0 0, .int .i64 0], []⟩).memory #[.slice none 0 0, .int .i64 0] := by
  have hw : (DataW.whole enc Tryf.prog ((World.doorLaid Tryf.prog 142 os).forCall (fun _ _ => 0) ⟨#[], #[.slice none 0 0, .int .i64 0], []⟩).memory Tryf.f4.params.toList (OpenSpec.ofChange Rows.fnReadFramesTakesAllThatCameInOneReadSpec).vars false #[Value.slice none 0 0, .int .i64 0].toList 8).map (fun x => (x.1, x.2.1)) =
      some ([.nil, .lit (.int .i64 0)], []) := by kernel_rfl
  obtain ⟨⟨x1, x2, x3⟩, hx, hx1⟩ := Option.map_eq_some_iff.1 hw
  simp only [Prod.mk.injEq] at hx1
  obtain ⟨rfl, rfl⟩ := hx1
  exact OpenSpec.preRow_of_cond 8 hx (by kernel_rfl) (fun k hk => by cases hk) (by kernel_rfl) (door_met os _)

set_option maxRecDepth 100000 in
theorem lifted4 (os : Os) (started : os.Started) (H : Type) (enc : TypeId × Value → H) :
    ReturnsInTold none {} Tryf.checked os 4 .any Input.okWide ((OpenSpec.ofChange Rows.fnReadFramesTakesAllThatCameInOneReadSpec).preRow enc Tryf.prog Tryf.f4 Rows.fnReadFramesTakesAllThatCameInOneReadRow.domain false Rows.fnReadFramesTakesAllThatCameInOneReadRow.laid) (fun F => ((OpenSpec.ofChange Rows.fnReadFramesTakesAllThatCameInOneReadSpec).at F).post enc Tryf.prog Tryf.f4 false true false false) (aloneAtReturn Tryf.prog) nothingAlways := by
  refine returnsInTold_of_row (C := Tryf.checked) (s := (OpenSpec.ofChange Rows.fnReadFramesTakesAllThatCameInOneReadSpec)) (by kernel_rfl) own started (by kernel_rfl) Tryf.func4
    (OpenSpec.witness_stopped_atRef (enc := enc) (C := Tryf.checked) false (World.doorLaid Tryf.prog 142 os) #[.slice none 0 0, .int .i64 0] rfl (by kernel_rfl) (by kernel_rfl) (by kernel_rfl) (witness4 os enc)) ?_
  intro F W base args ds gs before _ hF hval0 hW _ _ _ hL _
  have hval : ∀ (j : Nat) t v, Tryf.f4.params[j]? = some t → args[j]? = some v → Value.okWide Tryf.prog W .any base t v := hval0
  have hW' := hW
  obtain ⟨p, q, hA0, hV, rfl, hfz, hnd⟩ := hW
  have hA : DataW.TrodAll enc Tryf.prog W 0 (fun _ => true) true Tryf.f4.params.toList args.toList ds p := hA0
  rw [Tryf.params4] at hA hval
  obtain ⟨v0, v1, d0, d1, p0, p1, rfl, rfl, rfl, h0, h1⟩ := trodAll_two hA
  obtain ⟨rfl, rfl⟩ := trodVars_none hV
  obtain ⟨a0, len0, cap0, rfl⟩ := okWide_slice Tryf.underlying22 (hval 0 22 v0 rfl rfl)
  have k0 := h0
  have lt0 : ∀ x ∈ p0, x.block < W.heap.size := by obtain ⟨m, hm⟩ := k0; exact DataW.trod_lt m _ _ _ hm
  obtain ⟨f, hf, w0⟩ := arg_of h0
  obtain ⟨a1, rfl, rfl, rfl, w1⟩ := open_int Tryf.underlying3 (hval 1 3 v1 rfl rfl) h1
  clear hA0 hval0
  rw [MakeChecks.laidMetH_plain _ _ _ (by kernel_rfl)] at hL
  obtain ⟨ae, au, su, hS⟩ := sen_of_laid (laid8 hL) hL
  refine (main4 F.told a0 len0 cap0 f a1 ae au su W hS hF hf w0).mono fun e W' ⟨he, bel⟩ => ?_
  subst he
  exact ⟨_, rfl, _, _, _, [], _, [], hW', trodAll_mk1 (shut_bool Tryf.underlying4 _), trodAll_mk2 (Below.trod laidOut (by kernel_rfl) (of_decide_eq_true (by kernel_rfl)) k0 bel lt0) (shut_int Tryf.underlying3 w1), rfl, bel.frame _, fun h => by cases h⟩

end Go.Proofs.Qxb6618769aFmt
