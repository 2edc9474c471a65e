import Derived.Test.Qxb6618334aCallB
import Derived.Deep.RegionLaw
import Derived.Deep.AppendLies
import Derived.Deep.Cut
import Derived.Deep.CutRange
import Derived.Deep.CutBlock
import Derived.Deep.DeepCutAuto
namespace Go.Proofs.Qxb6618334a
open Go.RowKit
set_option linter.unusedVariables false
set_option maxRecDepth 100000

theorem Try.info41 : (Try.prog.info? 41).map (fun i => (i.zero, i.size, i.bytes)) = some (some (.agg #[.int .u16 0, .int .i64 0, .int .i64 0]), 3, 24) := by kernel_rfl

/-- The cells of the first k attributes. -/
def acells (ty fo fl : Nat → Int) : Nat → List Value
  | 0 => []
  | k + 1 => acells ty fo fl k ++ [.int .u16 (ty k), .int .i64 (fo k), .int .i64 (fl k)]

/-- The message at block jb, k attributes laid. -/
def Msg (w wr : World) (raw : Value) (ty fo fl : Nat → Int) (k : Nat) : Prop :=
  ∃ v, wr.heap[w.heap.size]? = some (.cells #[raw, v] 39 (0, 0)) ∧ wr.ownsRow (w.heap.size + 1) 41 3 v k (acells ty fo fl k) ∧ Below w.heap.size w wr

/-- The element that is appended, laid in a block of its own. -/
def ablk (ty fo fl : Nat → Int) (k : Nat) : Obj := .cells #[.int .u16 (ty k), .int .i64 (fo k), .int .i64 (fl k)] 41 (0, 0)

theorem own_ne {w wr : World} {v : Value} {k B : Nat} {xs : List Value} (h : wr.ownsRow (B + 1) 41 3 v k xs) : some B ≠ v.ownBlock := by
  rcases h.2 with ⟨rfl, _⟩ | ⟨g, cap, cur, rfl, hg, _⟩
  · intro e; cases e
  · intro e; simp [Value.ownBlock] at e; omega

theorem own_ge {wr : World} {v : Value} {k B : Nat} {xs : List Value} (h : wr.ownsRow (B + 1) 41 3 v k xs) : ∀ g, v.ownBlock = some g → B ≤ g := by
  rcases h.2 with ⟨rfl, _⟩ | ⟨g, cap, cur, rfl, hg, _⟩
  · intro g e; cases e
  · intro g' e; simp [Value.ownBlock] at e; omega

theorem after_append {w wr w1 : World} {raw v : Value} {ty fo fl : Nat → Int} {k : Nat} {xs : List Value} (hb : wr.heap[w.heap.size]? = some (.cells #[raw, v] 39 (0, 0))) (ho : wr.ownsRow (w.heap.size + 1) 41 3 v k xs)
    (hg : ((wr.alloc (ablk ty fo fl k)).drew).grownBy w1 v.ownBlock) : w1.heap[w.heap.size]? = some (.cells #[raw, v] 39 (0, 0)) := by
  have hz := lt_of_block hb
  rw [hg.block w.heap.size (by show w.heap.size < (wr.alloc (ablk ty fo fl k)).heap.size; rw [Deep.nblk_alloc]; omega) (own_ne (w := w) ho)]
  show (wr.alloc (ablk ty fo fl k)).heap[w.heap.size]? = _
  rw [Deep.blk_alloc_lt _ _ _ hz]; exact hb

theorem msg_step {w wr w1 : World} {raw v : Value} {ty fo fl : Nat → Int} {k g cap : Nat} (hb : wr.heap[w.heap.size]? = some (.cells #[raw, v] 39 (0, 0))) (ho : wr.ownsRow (w.heap.size + 1) 41 3 v k (acells ty fo fl k))
    (hbel : Below w.heap.size w wr) (hg : ((wr.alloc (ablk ty fo fl k)).drew).grownBy w1 v.ownBlock)
    (hown : w1.ownsRow (w.heap.size + 1) 41 3 (.slice (some ⟨g, 0, none⟩) (k + 1) cap) (k + 1) (acells ty fo fl k ++ [.int .u16 (ty k), .int .i64 (fo k), .int .i64 (fl k)])) :
    Msg w (w1.setCell ⟨w.heap.size, 1, none⟩ (.slice (some ⟨g, 0, none⟩) (k + 1) cap)) raw ty fo fl (k + 1) := by
  have h1 := after_append hb ho hg
  refine ⟨_, ?_, ownsRow_setCell_below hown (by show w.heap.size < w.heap.size + 1; omega) _, ?_⟩
  · rw [heap_setCell_same _ _ _ _ _ _ h1]; rfl
  · refine Below.setCell (B := w.heap.size) ?_ (by exact Nat.le_refl _) _
    exact ((hbel.alloc hbel.size _).drew).grown hg (by show w.heap.size ≤ (wr.alloc (ablk ty fo fl k)).heap.size; rw [Deep.nblk_alloc]; have := hbel.size; omega) (own_ge ho)

theorem acells_len (ty fo fl : Nat → Int) (k : Nat) : (acells ty fo fl k).length = k * 3 := by
  induction k with
  | zero => rfl
  | succ k ih => simp only [acells, List.length_append, ih]; simp; omega
theorem acells_get (ty fo fl : Nat → Int) : ∀ (k j : Nat), j < k → (acells ty fo fl k)[j * 3]? = some (.int .u16 (ty j)) ∧ (acells ty fo fl k)[j * 3 + 1]? = some (.int .i64 (fo j)) ∧ (acells ty fo fl k)[j * 3 + 2]? = some (.int .i64 (fl j)) := by
  intro k
  induction k with
  | zero => intro j hj; omega
  | succ k ih =>
    intro j hj
    have hl := acells_len ty fo fl k
    simp only [acells]
    by_cases e : j < k
    · rw [List.getElem?_append_left (by omega), List.getElem?_append_left (by omega), List.getElem?_append_left (by omega)]
      exact ih j e
    · obtain rfl : j = k := by omega
      rw [List.getElem?_append_right (by omega), List.getElem?_append_right (by omega), List.getElem?_append_right (by omega), hl]
      simp
theorem pm_of_msg {w wr : World} {rb r n : Nat} {ty fo fl : Nat → Int} (h : Msg w wr (.slice (some ⟨rb, 0, none⟩) r r) ty fo fl n) : PM wr w.heap.size rb r n ty fo fl := by
  obtain ⟨v, hb, ho, _⟩ := h
  have m0 : wr.cell? ⟨w.heap.size, 0, none⟩ = some (.slice (some ⟨rb, 0, none⟩) r r) := by rw [cell_of_row _ _ _ _ _ _ hb]; rfl
  have m1 : wr.cell? ⟨w.heap.size, 1, none⟩ = some v := by rw [cell_of_row _ _ _ _ _ _ hb]; rfl
  rcases ho.2 with ⟨rfl, rfl⟩ | ⟨g, cap, cur, rfl, hg, hcur, hc, _, hs, ht⟩
  · exact ⟨m0, none, 0, m1, fun h => by omega⟩
  · refine ⟨m0, _, cap, m1, fun _ => ⟨g, rfl, fun j hj => ?_⟩⟩
    obtain ⟨q0, q1, q2⟩ := acells_get ty fo fl n j hj
    have key : ∀ d x, d < n * 3 → (acells ty fo fl n)[d]? = some x → wr.cell? ⟨g, d, none⟩ = some x := by
      intro d x hd hx
      rw [cell_of_row _ _ _ _ _ _ hcur]
      rw [← ht, List.getElem?_take, if_pos hd] at hx
      simpa using hx
    exact ⟨key _ _ (by omega) q0, key _ _ (by omega) q1, key _ _ (by omega) q2⟩

set_option maxHeartbeats 4000000 in
theorem message_any (n r rb : Nat) (a1 : Option Addr) (c1 : Nat) (a2 : Option Addr) (c2 : Nat) (a3 : Option Addr) (c3 : Nat) (ty fo fl : Nat → Int) (w : World) (hn : n ≤ 65537)
    (H1 : Rd w .u16 a1 n ty) (H2 : Rd w .i64 a2 n fo) (H3 : Rd w .i64 a3 n fl) :
    Calls Try.prog 8 #[.slice (some ⟨rb, 0, none⟩) r r, .slice a1 n c1, .slice a2 n c2, .slice a3 n c3] w fun e w' => ∃ jb, e = .returned (.pointer (some ⟨jb, 0, none⟩)) ∧ PM w' jb rb r n ty fo fl ∧ Below w.heap.size w w' := by
  by_cases hn0 : n = 0
  · subst hn0
    have HM : Msg w (w.alloc (.cells #[.slice (some ⟨rb, 0, none⟩) r r, .slice none 0 0] 39)) (.slice (some ⟨rb, 0, none⟩) r r) ty fo fl 0 := ⟨_, Deep.blk_alloc_new _ _, World.ownsRow_nil _ _ _ _, (Below.refl _ _).alloc (Nat.le_refl _) _⟩
    have HM' : Hid (Msg w (w.alloc (.cells #[.slice (some ⟨rb, 0, none⟩) r r, .slice none 0 0] 39)) (.slice (some ⟨rb, 0, none⟩) r r) ty fo fl 0) := HM
    clear HM H1 H2 H3
    go_enter Try.func8, Try.ntmps8
    go_wp2
    refine wp_loop_rounds 1 ?_
    rw [rounds_succ]
    go_wp2
    go_ret
    exact ⟨w.heap.size, rfl, pm_of_msg HM'.out, (Below.refl _ _).alloc (Nat.le_refl _) _⟩
  obtain ⟨b1, o1, rfl, hc1⟩ := H1 (by omega)
  obtain ⟨b2, o2, rfl, hc2⟩ := H2 (by omega)
  obtain ⟨b3, o3, rfl, hc3⟩ := H3 (by omega)
  clear H1 H2 H3
  obtain ⟨i0, hi, hz0, hz1, hz2⟩ := info_parts Try.info41
  have HI : Hid (Try.prog.info? 41 = some i0 ∧ i0.zero = some (.agg #[.int .u16 0, .int .i64 0, .int .i64 0]) ∧ i0.size = 3 ∧ i0.bytes = 24) := ⟨hi, hz0, hz1, hz2⟩
  clear hi hz0 hz1 hz2
  go_enter Try.func8, Try.ntmps8
  go_wp2
  go_loopw [10] (fun i wr => ∃ k : Nat, k ≤ n ∧ i = .int .i64 k ∧ Msg w wr (.slice (some ⟨rb, 0, none⟩) r r) ty fo fl k) (fun i _ => n - (intOf i).toNat)
  case atStart => exact ⟨0, Nat.zero_le _, rfl, _, Deep.blk_alloc_new _ _, World.ownsRow_nil _ _ _ _, (Below.refl _ _).alloc (Nat.le_refl _) _⟩
  case round =>
    obtain ⟨k, hk, rfl, v, hblk, hown, hbel⟩ := hrel
    by_cases hlt : k < n
    · have h1 := cell_later hbel (hc1 k hlt)
      have h2 := cell_later hbel (hc2 k hlt)
      have h3 := cell_later hbel (hc3 k hlt)
      have hlt' : (k : Int) < (n : Int) := by omega
      have m1 : wr.cell? ⟨w.heap.size, 1, none⟩ = some v := by rw [cell_of_row _ _ _ _ _ _ hblk]; rfl
      have mf := frozen_of_row _ _ 1 _ _ hblk
      have hz := lt_of_block hblk
      have HB : Hid (wr.heap[w.heap.size]? = some (.cells #[.slice (some ⟨rb, 0, none⟩) r r, v] 39 (0, 0))) := hblk
      have HO : Hid (wr.ownsRow (w.heap.size + 1) 41 3 v k (acells ty fo fl k)) := hown
      have HO' : Hid (((wr.alloc (ablk ty fo fl k)).drew).ownsRow (w.heap.size + 1) 41 3 v k (acells ty fo fl k)) := (hown.alloc _).drew
      have HN : Hid (∀ j u, [Value.int .u16 (ty k), .int .i64 (fo k), .int .i64 (fl k)][j]? = some u → ((wr.alloc (ablk ty fo fl k)).drew).cell? ((⟨wr.heap.size, 0, none⟩ : Addr).add j) = some u) :=
        World.news_of_block (w := (wr.alloc (ablk ty fo fl k)).drew) (Deep.blk_alloc_new _ _)
      clear hblk hown
      clear hc1 hc2 hc3
      go_upto_block 1 with fail
      go_cut [] (fun wx => Msg w wx (.slice (some ⟨rb, 0, none⟩) r r) ty fo fl (k + 1))
      case first =>
        go_upto_region 5 with fail
        go_region_law (refine step_append_lies _ rfl (.tmp 36) (.tmp 50) 37 rfl (w.heap.size + 1) 41 i0 (.agg #[.int .u16 0, .int .i64 0, .int .i64 0]) 3 24 Try.underlying37 HI.out.1 HI.out.2.1 HI.out.2.2.1 HI.out.2.2.2 rfl (by decide) v k (acells ty fo fl k) rfl (by exact HO'.out) ⟨wr.heap.size, 0, none⟩ 1 1 [Value.int .u16 (ty k), .int .i64 (fo k), .int .i64 (fl k)] rfl rfl (by exact HN.out) (by simp [Value.oneCell']) (by decide) (by unfold maxLen; omega) (by omega) (by show w.heap.size + 1 ≤ (wr.alloc (ablk ty fo fl k)).heap.size; rw [Deep.nblk_alloc]; omega) _ rfl ?_; intro g cap w1 hown1 hgrow1 hat1 hlt1; have HG : Hid (((wr.alloc (ablk ty fo fl k)).drew).grownBy w1 v.ownBlock) := hgrow1; have HW : Hid (w1.ownsRow (w.heap.size + 1) 41 3 (.slice (some ⟨g, 0, none⟩) (k + 1) cap) (k + 1) (acells ty fo fl k ++ [Value.int .u16 (ty k), .int .i64 (fo k), .int .i64 (fl k)])) := hown1; clear hown1 hgrow1 hat1; have hx1 : w1.cell? ⟨w.heap.size, 1, none⟩ = some v := cell_of_row _ _ _ _ _ _ (after_append HB.out HO.out HG.out); have hx2 := frozen_of_row _ _ 1 _ _ (after_append HB.out HO.out HG.out))
        all_goals
          go_wp2_with fail
          go_meet
          exact msg_step HB.out HO.out hbel HG.out HW.out
      case rest =>
        have HC : Hid (Msg w wc (.slice (some ⟨rb, 0, none⟩) r r) ty fo fl (k + 1)) := hcut
        clear hcut
        go_wp2
        go_roundw
        case rel => first | exact ⟨k + 1, by omega, by go_num, HC.out⟩ | ((repeat apply Exists.intro); exact ⟨⟨k + 1, by omega, by go_num, HC.out⟩, rfl⟩)
        case measure => simp [intOf]; omega
    · have HM : Hid (Msg w wr (.slice (some ⟨rb, 0, none⟩) r r) ty fo fl k) := ⟨v, hblk, hown, hbel⟩
      obtain rfl : k = n := by omega
      clear hblk hown hc1 hc2 hc3
      go_wp2
      go_ret
      exact ⟨w.heap.size, rfl, pm_of_msg HM.out, hbel⟩

end Go.Proofs.Qxb6618334a
