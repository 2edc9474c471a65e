import Derived.Test.Qxb6618334aCallB
import Derived.OpenShut
namespace Go.Proofs.Qxb6618334a
open Go.RowKit
set_option linter.unusedVariables false

/-- The list with v put in at place k. -/
def ins (f : Nat → Int) (k : Nat) (v : Int) (j : Nat) : Int := if j < k then f j else if j = k then v else f (j - 1)
theorem ins_lt {f : Nat → Int} {k : Nat} {v : Int} {j : Nat} (h : j < k) : ins f k v j = f j := by simp [ins, h]
theorem ins_at {f : Nat → Int} {k : Nat} {v : Int} : ins f k v k = v := by simp [ins]
theorem ins_ge {f : Nat → Int} {k : Nat} {v : Int} {j : Nat} (h : k ≤ j) : ins f k v (j + 1) = f j := by
  unfold ins; rw [if_neg (by omega), if_neg (by omega)]; rfl

/-- j is the first place that bears t. -/
def FI (ty : Nat → Int) (n : Nat) (t : Int) (j : Nat) : Prop := j < n ∧ ty j = t ∧ ∀ q, q < j → ty q ≠ t
def NF (ty : Nat → Int) (n : Nat) (t : Int) : Prop := ∀ q, q < n → ty q ≠ t
theorem fi_or (ty : Nat → Int) (t : Int) : ∀ n, (∃ j, FI ty n t j) ∨ NF ty n t := by
  intro n
  induction n with
  | zero => exact .inr fun q h => by omega
  | succ n ih =>
    rcases ih with ⟨j, h1, h2, h3⟩ | h
    · exact .inl ⟨j, by omega, h2, h3⟩
    · by_cases e : ty n = t
      · exact .inl ⟨n, by omega, e, h⟩
      · exact .inr fun q hq => by
          by_cases e' : q = n
          · subst e'; exact e
          · exact h q (by omega)

/-- What Get answers: whether, how many bytes, from where in raw. -/
def GA (ty fo fl : Nat → Int) (n : Nat) (t : Int) (ok : Bool) (L st : Nat) : Prop :=
  (ok = false ∧ L = 0 ∧ NF ty n t) ∨ (ok = true ∧ ∃ j, FI ty n t j ∧ fo j + 4 = st ∧ fl j = L)

/-- The five ways. -/
def Ways (ty : Nat → Int) (n k : Nat) (t u off ln : Int) (okb : Bool) (Lb sb : Nat) (oka : Bool) (La sa : Nat) : Prop :=
      ((okb = false ∧ NF ty n t ∧ oka = false ∧ u ≠ t ∧ La = Lb ∧ Lb = 0) ∨
       (okb = false ∧ NF ty n t ∧ oka = true ∧ u = t ∧ (La : Int) = ln ∧ (sa : Int) = off + 4) ∨
       (okb = true ∧ oka = true ∧ La = Lb ∧ sa = sb ∧ u ≠ t ∧ ∃ j, FI ty n t j) ∨
       (okb = true ∧ oka = true ∧ u = t ∧ (La : Int) = ln ∧ (sa : Int) = off + 4 ∧ ∃ j, FI ty n t j ∧ k ≤ j) ∨
       (okb = true ∧ oka = true ∧ u = t ∧ La = Lb ∧ sa = sb ∧ ∃ j, FI ty n t j ∧ j < k))
/-- The five ways: what the old and the new message answer, and the first place in the old one (-1: none). -/
theorem five (ty fo fl : Nat → Int) (n k : Nat) (t u off ln : Int) (hk : k ≤ n) (hv : ∀ j, j < n → 0 ≤ fo j ∧ 0 ≤ fl j) (ho : 0 ≤ off) (hl : 0 ≤ ln) :
    ∃ okb Lb sb oka La sa, GA ty fo fl n t okb Lb sb ∧ GA (ins ty k u) (ins fo k off) (ins fl k ln) (n + 1) t oka La sa ∧
      Ways ty n k t u off ln okb Lb sb oka La sa := by
  rcases fi_or ty t n with ⟨j, hj⟩ | hn
  · have hj' := hj
    obtain ⟨hjn, hjt, hjl⟩ := hj'
    obtain ⟨v1, v2⟩ := hv j hjn
    have gb : GA ty fo fl n t true (fl j).toNat (fo j + 4).toNat := .inr ⟨rfl, j, hj, by omega, by omega⟩
    by_cases c : j < k
    · have ga : GA (ins ty k u) (ins fo k off) (ins fl k ln) (n + 1) t true (fl j).toNat (fo j + 4).toNat :=
        .inr ⟨rfl, j, ⟨by omega, by rw [ins_lt c]; exact hjt, fun q hq => by rw [ins_lt (by omega)]; exact hjl q hq⟩, by rw [ins_lt c]; omega, by rw [ins_lt c]; omega⟩
      by_cases e : u = t
      · exact ⟨true, _, _, true, _, _, gb, ga, Or.inr (.inr (.inr (.inr ⟨rfl, rfl, e, rfl, rfl, j, hj, c⟩)))⟩
      · exact ⟨true, _, _, true, _, _, gb, ga, Or.inr (.inr (.inl ⟨rfl, rfl, rfl, rfl, e, j, hj⟩))⟩
    · by_cases e : u = t
      · have ga : GA (ins ty k u) (ins fo k off) (ins fl k ln) (n + 1) t true ln.toNat (off + 4).toNat :=
          .inr ⟨rfl, k, ⟨by omega, by rw [ins_at]; exact e, fun q hq => by rw [ins_lt hq]; exact hjl q (by omega)⟩, by rw [ins_at]; omega, by rw [ins_at]; omega⟩
        exact ⟨true, _, _, true, _, _, gb, ga, Or.inr (.inr (.inr (.inl ⟨rfl, rfl, e, by omega, by omega, j, hj, by omega⟩)))⟩
      · have ga : GA (ins ty k u) (ins fo k off) (ins fl k ln) (n + 1) t true (fl j).toNat (fo j + 4).toNat :=
          .inr ⟨rfl, j + 1, ⟨by omega, by rw [ins_ge (by omega)]; exact hjt, fun q hq => by
            by_cases c1 : q < k
            · rw [ins_lt c1]; exact hjl q (by omega)
            · by_cases c2 : q = k
              · subst c2; rw [ins_at]; exact e
              · obtain ⟨q', rfl⟩ : ∃ q', q = q' + 1 := ⟨q - 1, by omega⟩
                rw [ins_ge (by omega)]; exact hjl q' (by omega)⟩, by rw [ins_ge (by omega)]; omega, by rw [ins_ge (by omega)]; omega⟩
        exact ⟨true, _, _, true, _, _, gb, ga, Or.inr (.inr (.inl ⟨rfl, rfl, rfl, rfl, e, j, hj⟩))⟩
  · have gb : GA ty fo fl n t false 0 0 := .inl ⟨rfl, rfl, hn⟩
    by_cases e : u = t
    · have ga : GA (ins ty k u) (ins fo k off) (ins fl k ln) (n + 1) t true ln.toNat (off + 4).toNat :=
        .inr ⟨rfl, k, ⟨by omega, by rw [ins_at]; exact e, fun q hq => by rw [ins_lt hq]; exact hn q (by omega)⟩, by rw [ins_at]; omega, by rw [ins_at]; omega⟩
      exact ⟨false, _, _, true, _, _, gb, ga, Or.inr (.inl ⟨rfl, hn, rfl, e, by omega, by omega⟩)⟩
    · have ga : GA (ins ty k u) (ins fo k off) (ins fl k ln) (n + 1) t false 0 0 := .inl ⟨rfl, rfl, fun q hq => by
          by_cases c1 : q < k
          · rw [ins_lt c1]; exact hn q (by omega)
          · by_cases c2 : q = k
            · subst c2; rw [ins_at]; exact e
            · obtain ⟨q', rfl⟩ : ∃ q', q = q' + 1 := ⟨q - 1, by omega⟩
              rw [ins_ge (by omega)]; exact hn q' (by omega)⟩
      exact ⟨false, _, _, false, _, _, gb, ga, Or.inl ⟨rfl, hn, rfl, e, rfl, rfl⟩⟩

/-- Get, whatever it answers. -/
theorem get_any (jb rb r n : Nat) (ty fo fl : Nat → Int) (t : Int) (ok : Bool) (L st : Nat) (w : World) (hn : n ≤ 65537) (hr : r ≤ 1048576) (h : PM w jb rb r n ty fo fl) (hg : GA ty fo fl n t ok L st)
    (hv : ∀ j, j < n → 0 ≤ fo j ∧ 0 ≤ fl j ∧ fo j + 4 + fl j ≤ r) :
    Calls Try.prog 9 #[.pointer (some ⟨jb, 0, none⟩), .int .u16 t] w fun e w' => (∃ a c, e = .returned (.tuple #[.slice a L c, .bool ok]) ∧ (0 < L → a = some ⟨rb, st, none⟩ ∧ st + L ≤ r)) ∧ Below w.heap.size w w' := by
  rcases hg with ⟨rfl, rfl, hnf⟩ | ⟨rfl, j, ⟨h1, h2, h3⟩, h4, h5⟩
  · refine (get_no jb rb r n ty fo fl t w hn h hnf).mono ?_
    rintro e w' ⟨rfl, hb⟩
    exact ⟨⟨none, 0, rfl, fun h => by omega⟩, hb⟩
  · obtain ⟨v1, v2, v3⟩ := hv j h1
    refine (get_yes jb rb r n j ty fo fl t w hn hr h h1 h2 h3 (fo j).toNat L (by omega) h5 (by omega)).mono ?_
    rintro e w' ⟨⟨a, c, rfl, ha⟩, hb⟩
    refine ⟨⟨a, c, rfl, fun hL => ⟨?_, by omega⟩⟩, hb⟩
    rw [ha hL, show (fo j).toNat + 4 = st from by omega]

theorem ins_valid {fo fl : Nat → Int} {n k r : Nat} {off ln : Int} (hk : k ≤ n) (hv : ∀ j, j < n → 0 ≤ fo j ∧ 0 ≤ fl j ∧ fo j + 4 + fl j ≤ r) (h : 0 ≤ off ∧ 0 ≤ ln ∧ off + 4 + ln ≤ r) :
    ∀ j, j < n + 1 → 0 ≤ ins fo k off j ∧ 0 ≤ ins fl k ln j ∧ ins fo k off j + 4 + ins fl k ln j ≤ r := fun j hj => by
  by_cases c1 : j < k
  · rw [ins_lt c1, ins_lt c1]; exact hv j (by omega)
  · by_cases c2 : j = k
    · subst c2; rw [ins_at, ins_at]; exact h
    · obtain ⟨j', rfl⟩ : ∃ j', j = j' + 1 := ⟨j - 1, by omega⟩
      rw [ins_ge (by omega), ins_ge (by omega)]; exact hv j' (by omega)

/-- Bytes of a row that can be read as a slice. -/
theorem rd_of_row {w : World} {rb r L st : Nat} {f : Nat → Int} {a : Option Addr} (h : ∀ j, j < r → w.cell? ⟨rb, j, none⟩ = some (.int .u8 (f j))) (ha : 0 < L → a = some ⟨rb, st, none⟩ ∧ st + L ≤ r) : Rd w .u8 a L (fun j => f (st + j)) := fun hL => by
  obtain ⟨h1, h2⟩ := ha hL
  exact ⟨rb, st, h1, fun j hj => h (st + j) (by omega)⟩

/-- A slice that came in. -/
def Came (K : IntKind) (w : World) (a : Option Addr) (n : Nat) (z : List Int) : Prop :=
  (a = none ∧ n = 0) ∨ ∃ x, a = some x ∧ n ≤ z.length ∧ ∀ i, i < z.length → w.cell? (x.add i) = some (.int K (z.getD i 0))
theorem Came.rd {K : IntKind} {w : World} {a : Option Addr} {n : Nat} {z : List Int} (h : Came K w a n z) : Rd w K a n (fun j => z.getD j 0) := fun hn => by
  rcases h with ⟨_, h0⟩ | ⟨x, rfl, hl, hc⟩
  · omega
  · obtain ⟨b, off, rfl, h⟩ := ints_at hc (by omega)
    exact ⟨b, off, rfl, fun j hj => h j (by omega)⟩
theorem Came.mono {K : IntKind} {w w' : World} {a : Option Addr} {n : Nat} {z : List Int} (h : Came K w a n z) (hb : Below w.heap.size w w') : Came K w' a n z := by
  rcases h with h | ⟨x, rfl, hl, hc⟩
  · exact .inl h
  · exact .inr ⟨x, rfl, hl, fun i hi => cell_later hb (hc i hi)⟩

/-- One element of a slice that can be read, and where it lies. -/
theorem Rd.at {w wr : World} {K : IntKind} {a : Option Addr} {n : Nat} {f : Nat → Int} (h : Rd w K a n f) (hb : Below w.heap.size w wr) {j : Nat} (hj : j < n) :
    ∃ b off, a = some ⟨b, off, none⟩ ∧ wr.cell? ⟨b, off + j, none⟩ = some (.int K (f j)) ∧ b < w.heap.size := by
  obtain ⟨b, off, ha, hc⟩ := h (by omega)
  exact ⟨b, off, ha, cell_later hb (hc j hj), World.block_lt_of_cell? _ _ (hc j hj)⟩

/-- Three rows that are filled side by side, behind w3. -/
def Fill (w3 wr : World) (n p : Nat) (g h i : Nat → Int) : Prop :=
  wr.rowIs w3.heap.size 25 (n + 1) (fillc .u16 g p) ∧ wr.rowIs (w3.heap.size + 1) 3 (n + 1) (fillc .i64 h p) ∧ wr.rowIs (w3.heap.size + 1 + 1) 3 (n + 1) (fillc .i64 i p) ∧ Below w3.heap.size w3 wr
theorem Fill.start (w3 : World) (n : Nat) (g h i : Nat → Int) :
    Fill w3 (((w3.alloc (.cells (madeCells #[.int .u16 0] (n + 1)) 25)).alloc (.cells (madeCells #[.int .i64 0] (n + 1)) 3)).alloc (.cells (madeCells #[.int .i64 0] (n + 1)) 3)) n 0 g h i := by
  refine ⟨((fill_start .u16 25 w3 (n + 1) g).alloc _).alloc _, ?_, ?_, ?_⟩
  · have h2 := fill_start .i64 3 (w3.alloc (.cells (madeCells #[.int .u16 0] (n + 1)) 25)) (n + 1) h
    rw [Deep.nblk_alloc] at h2
    exact h2.alloc _
  · have h2 := fill_start .i64 3 ((w3.alloc (.cells (madeCells #[.int .u16 0] (n + 1)) 25)).alloc (.cells (madeCells #[.int .i64 0] (n + 1)) 3)) (n + 1) i
    rw [Deep.nblk_alloc, Deep.nblk_alloc] at h2
    exact h2
  · exact (((Below.refl _ _).alloc (Nat.le_refl _) _).alloc (by rw [Deep.nblk_alloc]; omega) _).alloc (by rw [Deep.nblk_alloc, Deep.nblk_alloc]; omega) _
theorem Fill.step {w3 wr : World} {n p : Nat} {g h i : Nat → Int} {u v x : Int} (H : Fill w3 wr n p g h i) (hu : u = g p) (hv : v = h p) (hx : x = i p) :
    Fill w3 (((wr.setCell ⟨w3.heap.size, p, none⟩ (.int .u16 u)).setCell ⟨w3.heap.size + 1, p, none⟩ (.int .i64 v)).setCell ⟨w3.heap.size + 1 + 1, p, none⟩ (.int .i64 x)) n (p + 1) g h i := by
  obtain ⟨h1, h2, h3, h4⟩ := H
  refine ⟨((fill_step h1 hu).setOther (by show w3.heap.size ≠ w3.heap.size + 1; omega) _).setOther (by show w3.heap.size ≠ w3.heap.size + 1 + 1; omega) _,
    (fill_step (h2.setOther (by show w3.heap.size + 1 ≠ w3.heap.size; omega) _) hv).setOther (by show w3.heap.size + 1 ≠ w3.heap.size + 1 + 1; omega) _,
    fill_step ((h3.setOther (by show w3.heap.size + 1 + 1 ≠ w3.heap.size; omega) _).setOther (by show w3.heap.size + 1 + 1 ≠ w3.heap.size + 1; omega) _) hx, ?_⟩
  exact ((h4.setCell (Nat.le_refl _) _).setCell (by show w3.heap.size ≤ w3.heap.size + 1; omega) _).setCell (by show w3.heap.size ≤ w3.heap.size + 1 + 1; omega) _
theorem Fill.ready {w3 wr : World} {n p : Nat} {g h i : Nat → Int} (H : Fill w3 wr n p g h i) {j : Nat} (hj : j < n + 1) :
    (wr.cell? ⟨w3.heap.size, j, none⟩ = some (fillc .u16 g p j) ∧ wr.cell? ⟨w3.heap.size + 1, j, none⟩ = some (fillc .i64 h p j) ∧ wr.cell? ⟨w3.heap.size + 1 + 1, j, none⟩ = some (fillc .i64 i p j)) ∧
    wr.frozen? ⟨w3.heap.size, j, none⟩ = false ∧ wr.frozen? ⟨w3.heap.size + 1, j, none⟩ = false ∧ wr.frozen? ⟨w3.heap.size + 1 + 1, j, none⟩ = false :=
  ⟨⟨H.1.cell hj, H.2.1.cell hj, H.2.2.1.cell hj⟩, H.1.frozen j, H.2.1.frozen j, H.2.2.1.frozen j⟩
theorem rd_of_fill {K : IntKind} {e : TypeId} {w : World} {B n : Nat} {g : Nat → Int} (h : w.rowIs B e n (fillc K g n)) : Rd w K (some ⟨B, 0, none⟩) n g := fun _ =>
  ⟨B, 0, rfl, fun j hj => by rw [Nat.zero_add]; exact (fill_done h).cell hj⟩

end Go.Proofs.Qxb6618334a
