import Derived.Test.Qxb6618769aFmtFacts
import Derived.Laws.CopyOwn
import Derived.Deep.OwnRows
import Derived.Deep.QuietTactic
import Derived.BigQuiet
import Derived.Deep.RegionHeldLaw
namespace Go.Proofs.Qxb6618769aFmt
open Go.RowKit
set_option linter.unusedVariables false

theorem ret_bool {a b : Bool} (h : a = b) : Ending.returned (.bool a) = .returned (.bool b) := by rw [h]

/-- Of the old blocks those outside s are as they were. -/
structure Kp (s : Nat → Prop) (w w' : World) : Prop where
  os : w'.os = w.os
  tape : w'.tape = w.tape
  output : w'.output = w.output
  size : w.heap.size ≤ w'.heap.size
  block : ∀ k, k < w.heap.size → ¬ s k → w'.heap[k]? = w.heap[k]?
theorem Kp.refl (s : Nat → Prop) (w : World) : Kp s w w := ⟨rfl, rfl, rfl, Nat.le_refl _, fun _ _ _ => rfl⟩
theorem Kp.trans {s : Nat → Prop} {a b c : World} (h : Kp s a b) (k : Kp s b c) : Kp s a c :=
  ⟨k.os.trans h.os, k.tape.trans h.tape, k.output.trans h.output, Nat.le_trans h.size k.size, fun i hi hn => (k.block i (Nat.lt_of_lt_of_le hi h.size) hn).trans (h.block i hi hn)⟩
theorem Kp.mono {s t : Nat → Prop} {w w' : World} (h : Kp s w w') (hs : ∀ k, s k → t k) : Kp t w w' := ⟨h.os, h.tape, h.output, h.size, fun k hk hn => h.block k hk (fun e => hn (hs k e))⟩
theorem Kp.of_below {s : Nat → Prop} {w w' : World} (h : Below w.heap.size w w') : Kp s w w' := ⟨h.os, h.tape, h.output, h.size, fun k hk _ => h.block k hk⟩
theorem Kp.drewN {s : Nat → Prop} {a w : World} (h : Kp s a w) (n : Nat) : Kp s a (w.drewN n) := ⟨h.os, h.tape, h.output, h.size, h.block⟩
theorem Kp.fromDrew {s : Nat → Prop} {w w' : World} (h : Kp s w.drew w') : Kp s w w' := ⟨h.os, h.tape, h.output, h.size, h.block⟩
theorem Kp.alloc {s : Nat → Prop} {a w : World} (h : Kp s a w) (o : Obj) : Kp s a (w.alloc o) := h.trans (Kp.of_below ((Below.refl _ _).alloc (Nat.le_refl _) _))
theorem Kp.setCell {s : Nat → Prop} {a w : World} (h : Kp s a w) {p : Addr} (hp : s p.block) (u : Value) : Kp s a (w.setCell p u) :=
  h.trans ⟨rfl, rfl, rfl, by simp [World.setCell], fun k hk hn => Below.heap_setCell _ _ _ _ (fun e => hn (by rw [e]; exact hp))⟩
theorem Kp.cell {s : Nat → Prop} {w w' : World} (h : Kp s w w') {p : Addr} {v : Value} (hp : ¬ s p.block) (hc : w.cell? p = some v) : w'.cell? p = some v := by
  rw [World.cell?_of_block (w := w) (h.block p.block (World.block_lt_of_cell? _ _ hc) hp), hc]
theorem Kp.heap {s : Nat → Prop} {w w' : World} (h : Kp s w w') {k : Nat} {o : Obj} (hp : ¬ s k) (hc : w.heap[k]? = some o) : w'.heap[k]? = some o := by
  rw [h.block k (lt_of_block hc) hp, hc]
theorem Kp.row {s : Nat → Prop} {w w' : World} (h : Kp s w w') {b t n : Nat} {f : Nat → Value} (hp : ¬ s b) (hc : w.rowIs b t n f) : w'.rowIs b t n f :=
  hc.of_block (h.block b hc.lt hp)
theorem Kp.below {s : Nat → Prop} {w w' : World} {B : Nat} (h : Kp s w w') (hB : ∀ k, s k → B ≤ k) (hsz : B ≤ w.heap.size) : Below B w w' :=
  ⟨h.os, h.tape, h.output, h.size, fun k hk => h.block k (by omega) (fun e => by have := hB k e; omega)⟩

/-- A row with k cells laid over it from place o on. -/
def over (g : Nat → Value) (o k : Nat) (h : Nat → Value) (j : Nat) : Value := if o ≤ j ∧ j < o + k then h (j - o) else g j
theorem over_in {g : Nat → Value} {o k : Nat} {h : Nat → Value} {j : Nat} (hj : j < k) : over g o k h (o + j) = h j := by
  unfold over; rw [if_pos (by omega), show o + j - o = j from by omega]
theorem over_out {g : Nat → Value} {o k : Nat} {h : Nat → Value} {j : Nat} (hj : j < o ∨ o + k ≤ j) : over g o k h j = g j := by
  unfold over; rw [if_neg (by omega)]

theorem setRow_over {w : World} {b t n o k : Nat} {g h : Nat → Value} {cur : Array Value} (hb : w.heap[b]? = some (.cells cur t (0, 0))) (hn : cur.size = n) (hc : ∀ i, i < n → cur[i]? = some (g i)) (hfit : o + k ≤ n) :
    (w.setRow b (cur.toList.take o ++ ((List.range k).map h ++ cur.toList.drop (o + k))).toArray).rowIs b t n (over g o k h) := by
  have hl : cur.toList.length = n := by simpa using hn
  refine ⟨_, setRow_heap w b _ _ t _ hb, by simp; omega, fun i hi => ?_⟩
  have hci : cur.toList[i]? = some (g i) := by simpa using hc i hi
  rw [List.getElem?_toArray]
  by_cases h1 : i < o
  · rw [List.getElem?_append_left (by simp; omega), List.getElem?_take, if_pos h1, over_out (.inl h1)]; exact hci
  · rw [List.getElem?_append_right (by simp; omega)]
    have e1 : (cur.toList.take o).length = o := by simp; omega
    rw [e1]
    by_cases h2 : i < o + k
    · rw [List.getElem?_append_left (by simp; omega), List.getElem?_map, List.getElem?_range (by omega)]
      have : over g o k h i = h (i - o) := by unfold over; rw [if_pos (by omega)]
      rw [this]; rfl
    · rw [List.getElem?_append_right (by simp; omega), over_out (.inr (by omega)), List.getElem?_drop]
      rw [show o + k + (i - o - ((List.range k).map h).length) = i from by simp; omega]
      exact hci
theorem kp_setRow (w : World) (b : Nat) (cs : Array Value) : Kp (fun k => k = b) w (w.setRow b cs) :=
  ⟨rfl, rfl, rfl, by simp [World.setRow], fun k _ hk => setRow_other w b k cs hk⟩

/-- 'copy(dst, src)' as one step of a region that draws, dst in a row that is known by a function of the index. -/
theorem step_copy_fn {P : Program} {ops : Array Oper} {op : Oper} {a : Act} {w : World} {K : Act → World → Prop} {Q : Exit → Act → World → Prop} {E : Prop} (hgd : op.guard = none) (d s : Operand) (dT sT : TypeId)
    (ho : op.op = .call { callee := .builtin .copy, args := #[d, s], argTypes := #[dT, sT] }) (elem : TypeId) (hu : P.underlying dT = some (.slice elem)) (hsz : (P.info? elem).map (·.size) = some 1)
    (b o dLen dCap sb so sLen sCap k t n : Nat) (g h : Nat → Value) (hd : a.eval d = .slice (some ⟨b, o, none⟩) dLen dCap) (hs : a.eval s = .slice (some ⟨sb, so, none⟩) sLen sCap)
    (hk : k = Nat.min sLen dLen) (hrow : w.rowIs b t n g) (hfit : o + k ≤ n) (hsrc : ∀ j, j < k → w.cell? ⟨sb, so + j, none⟩ = some (h j)) (h1 : ∀ j, j < k → (h j).oneCell' = true)
    (hK : ∀ w', Hid (w'.rowIs b t n (over g o k h)) → Kp (fun x => x = b) w w' → w'.heap.size = w.heap.size → K (a.put op.dst (goInt k)) w') :
    if Region.wanted op (yielded ops a.tmps) = true then Oper.wp P op a w K Q else E := by
  have hw : Region.wanted op (yielded ops a.tmps) = true := by simp [Region.wanted, hgd]
  rw [if_pos hw]
  obtain ⟨cur, hb, hn, hc⟩ := hrow
  have hlen : ((List.range k).map h).length = k := by simp
  have hrun := run_copy_row (P := P) w dT sT op.type elem b o dLen dCap ⟨sb, so, none⟩ sLen sCap cur t ((List.range k).map h) hu hsz hb (by rw [hlen, hk]) (fun j v hj => by
      have hjk : j < k := by have := (List.getElem?_eq_some_iff.1 hj).1; rwa [hlen] at this
      rw [List.getElem?_map, List.getElem?_range hjk] at hj
      have e : (⟨sb, so, none⟩ : Addr).add j = ⟨sb, so + j, none⟩ := by unfold Addr.add; split <;> simp_all
      rw [e, hsrc j hjk]; simpa using hj) (by rw [hlen]; omega) (fun v hv => by
      obtain ⟨j, hj, rfl⟩ := List.mem_map.1 hv
      exact h1 j (by simpa using hj))
  rw [List.append_assoc, hlen] at hrun
  unfold Oper.wp
  simp [execOp, ho, resolve, invoke, builtin, hd, hs, hrun, Result.andThen]
  exact hK _ (setRow_over hb hn hc hfit) (kp_setRow w b _) (by simp [World.setRow])

end Go.Proofs.Qxb6618769aFmt
