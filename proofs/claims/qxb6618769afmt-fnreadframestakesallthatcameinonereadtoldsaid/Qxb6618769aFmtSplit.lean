import Derived.Test.Qxb6618769aFmtFrame
import Derived.Deep.AppendLies
namespace Go.Proofs.Qxb6618769aFmt
open Go.RowKit
set_option linter.unusedVariables false
set_option maxRecDepth 100000

/-- Where message number i begins, the first at c. -/
def stp (D : Nat → Int) (c : Nat) : Nat → Nat
  | 0 => c
  | i + 1 => stp D c i + 2 + bd D (stp D c i)
theorem stp_ge (D : Nat → Int) (c i : Nat) : c + 2 * i ≤ stp D c i := by
  induction i with
  | zero => simp [stp]
  | succ i ih => simp only [stp]; omega
/-- m whole messages stand at c ahead of the place e, and no more. -/
def Cut (D : Nat → Int) (c e m : Nat) : Prop := (∀ i, i < m → stp D c (i + 1) ≤ e) ∧ ¬ stp D c (m + 1) ≤ e
theorem Cut.stp_le {D : Nat → Int} {c e m : Nat} (hc : c ≤ e) (h : Cut D c e m) : stp D c m ≤ e := by
  cases m with
  | zero => exact hc
  | succ m => exact h.1 m (by omega)

theorem info22 : (Tryf.prog.info? 22).map (fun i => (i.zero, i.size, i.bytes)) = some (some (.slice none 0 0), 1, 24) := by kernel_rfl

/-- The pieces of the row at ⟨b, o⟩, as 'x[l:h:h]' cuts them. -/
def cuts (D : Nat → Int) (b o c : Nat) (k : Nat) : List Value := (List.range k).map fun i => .slice (some ⟨b, o + (stp D c i - c), none⟩) (2 + bd D (stp D c i)) (2 + bd D (stp D c i))
theorem cuts_succ (D : Nat → Int) (b o c k : Nat) : cuts D b o c (k + 1) = cuts D b o c k ++ [.slice (some ⟨b, o + (stp D c k - c), none⟩) (2 + bd D (stp D c k)) (2 + bd D (stp D c k))] := by
  simp [cuts, List.range_succ]

theorem own_later {base e size n : Nat} {v : Value} {xs : List Value} {w w' : World} (h : w.ownsRow base e size v n xs) (hb : Below w.heap.size w w') : w'.ownsRow base e size v n xs := by
  refine ⟨h.1, ?_⟩
  rcases h.2 with h0 | ⟨g, cap, cur, h1, h2, h3, h4⟩
  · exact Or.inl h0
  · exact Or.inr ⟨g, cap, cur, h1, h2, (hb.block g (lt_of_block h3)).trans h3, h4⟩

/-- 'xs = append(xs, x)', xs of the call's own, [][]byte: behind it xs holds x too; of what was there the old row alone may have turned. -/
theorem wpList_app {ops : Array Oper} {rest : List Oper} {op : Oper} {a : Act} {Q : Exit → Act → World → Prop} (hgd : op.guard = none) (s x : Operand)
    (ho : op.op = .call { callee := .builtin .append, args := #[s, x], argTypes := #[25, 25] }) (v el : Value) (n base : Nat) (xs : List Value) (w0 : World) (h1 : el.oneCell' = true) (hs : a.eval s = v)
    (hx : a.eval x = .slice (some ⟨w0.heap.size, 0, none⟩) 1 1) (hown : w0.ownsRow base 22 1 v n xs) (hn : n ≤ 1048576) (hbase : base ≤ w0.heap.size)
    (h : ∀ g cap w', Hid (w'.ownsRow base 22 1 (.slice (some ⟨g, 0, none⟩) (n + 1) cap) (n + 1) (xs ++ [el])) → Kp (fun y => v.ownBlock = some y) w0 w' → base ≤ g → (v.ownBlock = some g ∨ w0.heap.size ≤ g) → wpList Tryf.prog ops Q rest (a.put op.dst (.slice (some ⟨g, 0, none⟩) (n + 1) cap)) w') :
    wpList Tryf.prog ops Q (op :: rest) a (w0.alloc (.cells #[el] 22)) := by
  obtain ⟨i0, hi, hz0, hz1, hz2⟩ := info_parts info22
  have hk : Kp (fun y => v.ownBlock = some y) w0 (w0.alloc (.cells #[el] 22)) := (Kp.refl _ _).alloc _
  refine wpList_append_lies (w0.alloc (.cells #[el] 22)) hgd s x 25 ho base 22 i0 (.slice none 0 0) 1 24 Tryf.underlying25 hi hz0 hz1 hz2 rfl (by decide) v n xs hs (hown.alloc _) ⟨w0.heap.size, 0, none⟩ 1 1 [el] hx rfl (World.news_of_block (w := w0.alloc (.cells #[el] 22)) (Deep.blk_alloc_new _ _)) (by simpa using h1) (by decide) (by unfold maxLen; omega) (by omega) (Nat.le_trans hbase hk.size) _ rfl ?_
  intro g cap w1 hown1 hgrow1 hat1 hlt1
  refine h g cap w1 hown1 (hk.trans ⟨hgrow1.os, hgrow1.tape, hgrow1.output, hgrow1.size, fun k hk hn => hgrow1.block k hk (fun e => hn e.symm)⟩) ?_ (by rcases hat1 with e | e; exact Or.inl e; exact Or.inr (by rw [e]; exact hk.size))
  rcases hown1.2 with ⟨h', _⟩ | ⟨g', cap', cur, h', hb, _⟩
  · simp at h'
  · simp only [Value.slice.injEq, Option.some.injEq, Addr.mk.injEq, and_true, true_and] at h'
    obtain ⟨rfl, rfl⟩ := h'
    exact hb
theorem own_base {base e size n : Nat} {v : Value} {xs : List Value} {w : World} (h : w.ownsRow base e size v n xs) (g : Nat) (hg : v.ownBlock = some g) : base ≤ g := by
  rcases h.2 with ⟨rfl, _⟩ | ⟨g', cap, cur, rfl, hb, _⟩
  · simp [Value.ownBlock] at hg
  · simp [Value.ownBlock] at hg; omega

set_option maxHeartbeats 2000000 in
theorem split_any (D : Nat → Int) (hB : ∀ j, 0 ≤ D j ∧ D j < 256) (b o c L cp : Nat) (w : World) (hL : L ≤ 1048576) (hcp : L ≤ cp) (hb : b < w.heap.size) (hc : ∀ j, j < L → w.cell? ⟨b, o + j, none⟩ = some (.int .u8 (D (c + j)))) :
    Calls Tryf.prog 19 #[.slice (some ⟨b, o, none⟩) L cp] w fun e w' => ∃ m v, e = .returned (.tuple #[v, .int .i64 ((stp D c m - c : Nat) : Int)]) ∧ Cut D c (c + L) m ∧ w'.ownsRow w.heap.size 22 1 v m (cuts D b o c m) ∧ Below w.heap.size w w' := by
  obtain ⟨i0, hi, hz0, hz1, hz2⟩ := info_parts info22
  have HI : Hid (Tryf.prog.info? 22 = some i0 ∧ i0.zero = some (.slice none 0 0) ∧ i0.size = 1 ∧ i0.bytes = 24) := ⟨hi, hz0, hz1, hz2⟩
  have HC : Hid (∀ j, j < L → w.cell? ⟨b, o + j, none⟩ = some (.int .u8 (D (c + j)))) := hc
  clear hi hz0 hz1 hz2 hc
  go_enter Tryf.func19, Tryf.ntmps19
  go_wp2
  go_loopw [2, 3, 4] (fun a t _ wr => ∃ k : Nat, (∀ i, i < k → stp D c (i + 1) ≤ c + L) ∧ stp D c k ≤ c + L ∧ t = .int .i64 ((stp D c k - c : Nat) : Int) ∧ wr.ownsRow w.heap.size 22 1 a k (cuts D b o c k) ∧ Below w.heap.size w wr) (fun _ t _ _ => L - (intOf t).toNat)
  case atStart => exact ⟨0, fun i h => by omega, by simp [stp], by simp [stp], World.ownsRow_nil _ _ _ _, Below.refl _ _⟩
  case round =>
    obtain ⟨k, hk1, hk2, rfl, hown, hbel⟩ := hrel
    have hge := stp_ge D c k
    obtain ⟨s, hs⟩ : ∃ s, s = stp D c k - c := ⟨_, rfl⟩
    have hsL : s ≤ L := by omega
    have HO : Hid (wr.ownsRow w.heap.size 22 1 u2 k (cuts D b o c k)) := hown
    have HS : Hid (s = stp D c k - c) := hs
    have hst : stp D c k = c + s := by omega
    have HT : Hid (stp D c k = c + s) := hst
    have HK1 : Hid (∀ i, i < k → stp D c (i + 1) ≤ c + L) := hk1
    rw [← hs]
    obtain ⟨q, hq⟩ : ∃ q, q = bd D (c + s) := ⟨_, rfl⟩
    have hn1 : stp D c (k + 1) = c + s + 2 + q := by show stp D c k + 2 + bd D (stp D c k) = _; rw [hst, hq]
    have HN1 : Hid (stp D c (k + 1) = c + s + 2 + q) := hn1
    have hqm : q ≤ 65535 := by have := hB (c + s); have := hB (c + s + 1); rw [hq]; unfold bd; omega
    have HQ : Hid (q = bd D (c + s)) := hq
    clear hown hs hst hk1 hk2 hn1 hq hge
    by_cases h2 : s + 2 ≤ L
    · have h2' : (2 : Int) ≤ (L : Int) - (s : Int) := by omega
      have hcs : ¬ cp = s := by omega
      have c0 : wr.cell? ⟨b, o + s, none⟩ = some (.int .u8 (D (c + s))) := (hbel.cell (by exact hb)).trans (HC.out s (by omega))
      have c1 : wr.cell? ⟨b, o + s + 1, none⟩ = some (.int .u8 (D (c + s + 1))) := (hbel.cell (by exact hb)).trans (HC.out (s + 1) (by omega))
      have hwr1 : IntKind.i64.wrap (q : Int) = q := wrapid (by omega) (by omega)
      have hwr2 : IntKind.i64.wrap ((s : Int) + 2) = (s : Int) + 2 := wrapid (by omega) (by omega)
      have hwr3 : IntKind.i64.wrap ((s : Int) + 2 + (q : Int)) = (s : Int) + 2 + (q : Int) := IntWalk.i64_in _ (by omega)
      go_wp2
      go_region_held (fun _ => True) (trivial)
        ((go_at_call 24; refine (be16 b (o + s) (L - s) (cp - s) (D (c + s)) (D (c + s + 1)) wr.drew (by omega) (hB _) (hB _) c0 c1).mono ?_; rintro e w3 ⟨he, hb3⟩; obtain rfl : e = .returned (.int .u16 (q : Int)) := he.trans (by rw [HQ.out]; rfl); clear he))
      have hk3 : Below w.heap.size w w3 := ⟨hb3.os.trans hbel.os, hb3.tape.trans hbel.tape, hb3.output.trans hbel.output, Nat.le_trans hbel.size hb3.size, fun k hk => (hb3.block k (Nat.lt_of_lt_of_le hk hbel.size)).trans (hbel.block k hk)⟩
      have HO3 : Hid (w3.ownsRow w.heap.size 22 1 u2 k (cuts D b o c k)) := own_later HO.out ⟨hb3.os, hb3.tape, hb3.output, hb3.size, hb3.block⟩
      clear c0 c1 hb3
      by_cases h3 : s + 2 + q ≤ L
      · have h3' : ((s : Int) + 2 + (q : Int)) ≤ (L : Int) := by omega
        have h3t : ((s : Int) + 2 + (q : Int)).toNat = s + 2 + q := by omega
        have hcs2 : ¬ s + 2 + q = s := by omega
        go_upto_region 4 with fail
        iterate 22 go_step
        have hst := HT.out
        refine wpList_app rfl (.tmp 23) (.tmp 29) rfl u2 _ k w.heap.size (cuts D b o c k) w3 rfl rfl rfl HO3.out (by have := stp_ge D c k; omega) hk3.size ?_
        intro g cap w5 HO5 hk5 hg5 hat5
        have hbel5 : Below w.heap.size w w5 := ⟨hk5.os.trans hk3.os, hk5.tape.trans hk3.tape, hk5.output.trans hk3.output, Nat.le_trans hk3.size hk5.size, fun y hy => (hk5.block y (Nat.lt_of_lt_of_le hy hk3.size) (fun e => by have := own_base HO3.out y e; omega)).trans (hk3.block y hy)⟩
        clear hst hk5 HO3
        go_wp2
        go_roundw
        case rel =>
          refine ⟨k + 1, fun i hi => ?_, by rw [HN1.out]; omega, ?_, ?_, hbel5⟩
          · rcases Nat.lt_or_ge i k with h | h
            · exact HK1.out i h
            · obtain rfl : i = k := by omega
              rw [HN1.out]; omega
          · rw [HN1.out]; exact congrArg _ (by omega)
          · rw [cuts_succ, ← HS.out, HT.out, ← HQ.out, show 2 + q = s + 2 + q - s from by omega]; exact HO5.out
        case measure => simp [intOf]; omega
      · have h3' : (L : Int) < ((s : Int) + 2 + (q : Int)) := by omega
        go_wp2
        go_ret2
        refine ⟨k, u2, by rw [← HS.out]; rfl, ⟨HK1.out, by rw [HN1.out]; omega⟩, HO3.out, hk3⟩
    · have h2' : (L : Int) - (s : Int) < 2 := by omega
      go_wp2
      go_ret2
      refine ⟨k, u2, by rw [← HS.out]; rfl, ⟨HK1.out, by rw [HN1.out]; omega⟩, HO.out, hbel⟩
end Go.Proofs.Qxb6618769aFmt
