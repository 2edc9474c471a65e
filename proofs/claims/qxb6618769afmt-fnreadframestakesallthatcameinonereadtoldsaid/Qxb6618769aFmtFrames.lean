import Derived.Test.Qxb6618769aFmtClone
import Derived.Test.Qxb6618769aFmtPeek
import Derived.Test.Qxb6618769aFmtFail
namespace Go.Proofs.Qxb6618769aFmt
open Go.Extern.Stop Go.Stop Go.Extern Go.RowKit
set_option linter.unusedVariables false
set_option maxRecDepth 100000

theorem buffered_ri {G : Geo} (ok : G.Ok) {c pos : Nat} {w : World} (h : RI G w c pos) :
    Calls Tryf.prog 18 #[.pointer (some ⟨G.R, 0, none⟩)] w fun e w' => e = .returned (.int .i64 ((pos - c : Nat) : Int)) ∧ ∃ q, w' = w.drewN q := by
  obtain ⟨a1, a2, hD, hY, r, lb, lr, gu, hr, hR, hU, hg, hby⟩ := h
  refine (buffered_any G.R r (r + (pos - c)) _ _ _ _ _ w (by omega) (by have := ok.szmax; omega) hR).mono ?_
  rintro e w' ⟨h1, h2⟩
  exact ⟨h1.trans (by rw [show r + (pos - c) - r = pos - c from by omega]), h2⟩

theorem stp_shift (D : Nat → Int) (c i : Nat) : stp D (stp D c 1) i = stp D c (i + 1) := by
  induction i with
  | zero => rfl
  | succ i ih => show stp D (stp D c 1) i + 2 + bd D (stp D (stp D c 1) i) = _; rw [ih]; rfl

/-- The values xs are the messages from c on, each in a row of its own. -/
def Fr (D : Nat → Int) (c : Nat) (w : World) (xs : List Value) (m : Nat) : Prop :=
  ∀ j, j < m → ∃ N cap cs, xs[j]? = some (.slice (some ⟨N, 0, none⟩) (2 + bd D (stp D c j)) cap) ∧ w.heap[N]? = some (.cells cs 5 (0, 0)) ∧ ∀ i, i < 2 + bd D (stp D c j) → w.cell? ⟨N, i, none⟩ = some (.int .u8 (D (stp D c j + i)))
theorem Fr.keep {D : Nat → Int} {c m : Nat} {s : Nat → Prop} {w w' : World} {xs : List Value} (h : Fr D c w xs m) (hk : Kp s w w') (hs : ∀ N cs, w.heap[N]? = some (.cells cs 5 (0, 0)) → ¬ s N) : Fr D c w' xs m := fun j hj =>
  let ⟨N, cap, cs, h1, h2, h3⟩ := h j hj
  ⟨N, cap, cs, h1, hk.heap (hs N cs h2) h2, fun i hi => hk.cell (by exact hs N cs h2) (h3 i hi)⟩
theorem Fr.snoc {D : Nat → Int} {c m : Nat} {w : World} {xs : List Value} (h : Fr D c w xs m) (hl : xs.length = m) (N cap : Nat) (cs : Array Value) (h2 : w.heap[N]? = some (.cells cs 5 (0, 0)))
    (h3 : ∀ i, i < 2 + bd D (stp D c m) → w.cell? ⟨N, i, none⟩ = some (.int .u8 (D (stp D c m + i)))) : Fr D c w (xs ++ [.slice (some ⟨N, 0, none⟩) (2 + bd D (stp D c m)) cap]) (m + 1) := fun j hj => by
  by_cases hjm : j < m
  · obtain ⟨N', cap', cs', g1, g2, g3⟩ := h j hjm
    exact ⟨N', cap', cs', by rw [List.getElem?_append_left (by omega)]; exact g1, g2, g3⟩
  · obtain rfl : j = m := by omega
    exact ⟨N, cap, cs, by rw [List.getElem?_append_right (by omega), hl, Nat.sub_self]; rfl, h2, h3⟩

theorem own_kp {base e size n : Nat} {v : Value} {xs : List Value} {s : Nat → Prop} {w w' : World} (h : w.ownsRow base e size v n xs) (hk : Kp s w w') (hs : ∀ g, v.ownBlock = some g → ¬ s g) : w'.ownsRow base e size v n xs := by
  refine ⟨h.1, ?_⟩
  rcases h.2 with h0 | ⟨g, cap, cur, h1, h2, h3, h4⟩
  · exact Or.inl h0
  · exact Or.inr ⟨g, cap, cur, h1, h2, hk.heap (hs g (by rw [h1]; rfl)) h3, h4⟩

theorem RI.rtype {G : Geo} {c pos : Nat} {w : World} (h : RI G w c pos) (cs : Array Value) : w.heap[G.R]? ≠ some (.cells cs 5 (0, 0)) := by
  obtain ⟨_, _, _, _, r, lb, lr, _, _, hR, _⟩ := h
  rw [hR]; intro e; simp at e
theorem own_type {base g n cap : Nat} {xs : List Value} {w : World} (h : w.ownsRow base 22 1 (.slice (some ⟨g, 0, none⟩) n cap) n xs) (cs : Array Value) : w.heap[g]? ≠ some (.cells cs 5 (0, 0)) := by
  rcases h.2 with ⟨h', _⟩ | ⟨g', cap', cur, h', _, hgg, _⟩
  · simp at h'
  · simp only [Value.slice.injEq, Option.some.injEq, Addr.mk.injEq, and_true, true_and] at h'
    obtain ⟨rfl, rfl⟩ := h'
    rw [hgg]; intro e; simp at e

/-- What ReadFrames hands back at a whole message. -/
def RfPost (G : Geo) (c pos : Nat) (w : World) (e : Ending) (w' : World) : Prop := ∃ g cap m p xs, e = .returned (.tuple #[.slice (some ⟨g, 0, none⟩) (m + 1) cap, .nilIface]) ∧ (∀ i, i < m + 1 → stp G.D c (i + 1) ≤ G.n) ∧
  xs.length = m + 1 ∧ (∀ j, j < m + 1 → w'.cell? ⟨g, j, none⟩ = xs[j]?) ∧ Fr G.D c w' xs (m + 1) ∧ RI G w' (stp G.D c (m + 1)) p ∧ Kp (fun x => x = G.R ∨ x = G.U ∨ x = G.Y) w w' ∧ (pos = c → G.n - c ≤ G.SZ → ¬ stp G.D c (m + 2) ≤ G.n)

set_option maxHeartbeats 4000000 in
theorem readFrames_whole (F : Interp) (G : Geo) (ok : G.Ok) (M : Nat) (hlo : G.Lo M) (c pos : Nat) (ae au : Addr) (su : ByteArray) (w : World) (hB : ∀ j, 0 ≤ G.D j ∧ G.D j < 256) (hI : RI G w c pos) (hS : Sen M ae au su w) (hw : whole G c)
    (nB : G.B < w.heap.size) (nM : M ≤ w.heap.size) :
    Calls Tryf.prog 14 #[.pointer (some ⟨G.R, 0, none⟩)] w fun e w' => RfPost G c pos w e w' := by
  have hnm := ok.nmax
  have H16 := readFrame_whole F G ok M hlo c pos ae au su w hB hI hS hw nB nM
  obtain ⟨l1, l2, l3⟩ := hI.lts
  clear hI
  obtain ⟨b, hb⟩ : ∃ b, b = bd G.D c := ⟨_, rfl⟩
  obtain ⟨hw1, hw2⟩ := hw
  rw [← hb] at H16 hw2
  have HB : Hid (b = bd G.D c) := hb
  clear hb
  go_enter Tryf.func14, Tryf.ntmps14
  go_wp2_with (go_at_call 16; refine H16.mono ?_; rintro e w1 ⟨N, p, rfl, hN, hrow, hI1, hK1, hp1, hp2⟩; have HI1 : Hid (RI G w1 (c + 2 + b) p) := hI1; have HN : Hid (w1.rowIs N 5 (2 + b) (fun j => .int .u8 (G.D (c + j)))) := hrow; have HP : Hid ((pos = G.n → p = G.n) ∧ (pos = c → G.n - c ≤ G.SZ → p = G.n)) := ⟨hp1, hp2⟩; clear hI1 hrow hp1 hp2)
  obtain ⟨w2, hw2'⟩ : ∃ w2, w2 = w1.alloc (.cells #[.slice (some ⟨N, 0, none⟩) (2 + b) (2 + b)] 22) := ⟨_, rfl⟩
  rw [← hw2']
  obtain ⟨g0, hg0⟩ : ∃ g0, g0 = w1.heap.size := ⟨_, rfl⟩
  have hk2 : Kp (fun _ => False) w1 w2 := by rw [hw2']; exact (Kp.refl _ _).alloc _
  have hgw : w.heap.size ≤ g0 := by rw [hg0]; exact hK1.size
  have HI2 : Hid (RI G w2 (c + 2 + b) p) := HI1.out.keep hk2 id id id id
  have HO2 : Hid (w2.ownsRow w.heap.size 22 1 (.slice (some ⟨g0, 0, none⟩) 1 1) 1 [.slice (some ⟨N, 0, none⟩) (2 + b) (2 + b)]) := by
    refine ⟨rfl, .inr ⟨g0, 1, _, rfl, hgw, by rw [hw2', hg0]; exact Deep.blk_alloc_new w1 _, Nat.le_refl _, by decide, rfl, rfl⟩⟩
  have HF2 : Hid (Fr G.D c w2 [.slice (some ⟨N, 0, none⟩) (2 + b) (2 + b)] 1) := by
    intro j hj
    obtain rfl : j = 0 := by omega
    obtain ⟨cs, h1, h2, h3⟩ := hk2.row id HN.out
    refine ⟨N, 2 + b, cs, by rw [HB.out]; rfl, h1, fun i hi => ?_⟩
    have hi' : i < 2 + b := by rw [HB.out]; exact hi
    exact (hk2.row id HN.out).cell hi'
  have hK2 : Kp (fun x => x = G.R ∨ x = G.U ∨ x = G.Y) w w2 := hK1.trans (hk2.mono fun k h => h.elim)
  have hg2 : g0 < w2.heap.size := by rw [hw2', Deep.nblk_alloc]; omega
  rw [← hg0]
  clear hw2' hg0 hk2 HI1 HN hK1
  obtain ⟨c1, hc1⟩ : ∃ c1, c1 = c + 2 + b := ⟨_, rfl⟩
  have HI2' : Hid (RI G w2 c1 p) := by show RI G w2 c1 p; rw [hc1]; exact HI2.out
  have hcp := HI2'.out.1
  have hpn := HI2'.out.2.1
  have HC1 : Hid (c1 = stp G.D c 1) := by show c1 = c + 2 + bd G.D c; rw [hc1, HB.out]
  have hRt : Hid (∀ cs, w2.heap[G.R]? ≠ some (.cells cs 5 (0, 0))) := HI2'.out.rtype
  clear HI2 hc1 H16
  refine (buffered_ri ok HI2'.out).mono ?_
  rintro e w3 ⟨rfl, q, hw3⟩
  have hk3 : Kp (fun _ => False) w2 w3 := by rw [hw3]; exact (Kp.refl _ _).drewN q
  clear hw3
  have HI3 : Hid (RI G w3 c1 p) := HI2'.out.keep hk3 id id id id
  go_wp2_with fail
  refine (peek_all G ok c1 p w3 HI3.out).mono ?_
  rintro e w4 ⟨o, cp, rfl, hcp4, hcells, hI4, hk4⟩
  have HI4 : Hid (RI G w4 c1 p) := hI4
  have HCe : Hid (∀ j, j < p - c1 → w4.cell? ⟨G.U, o + j, none⟩ = some (.int .u8 (G.D (c1 + j)))) := hcells
  have hk4' : Kp (fun x => x = G.R) w2 w4 := (hk3.mono fun k h => h.elim).trans hk4
  clear hI4 hcells HI3 HI2' hk3 hk4
  go_wp2_with fail
  refine (split_any G.D hB G.U o c1 (p - c1) cp w4 (by omega) hcp4 HI4.out.lts.2.1 HCe.out).mono ?_
  rintro e w5 ⟨m, vm, rfl, hcut, hown, hb5⟩
  have HCut : Hid (Cut G.D c1 (c1 + (p - c1)) m) := hcut
  have HOm : Hid (w5.ownsRow w4.heap.size 22 1 vm m (cuts G.D G.U o c1 m)) := hown
  clear hcut hown
  have hvm : ∃ am cm, vm = .slice am m cm ∧ (0 < m → ∃ gm, am = some ⟨gm, 0, none⟩ ∧ w4.heap.size ≤ gm) := by
    rcases HOm.out.2 with ⟨h1, h2⟩ | ⟨gm, cm, _, h1, h2, _⟩
    · exact ⟨none, 0, by rw [h1, h2], fun h => by omega⟩
    · exact ⟨_, cm, h1, fun _ => ⟨gm, rfl, h2⟩⟩
  obtain ⟨am, cm, rfl, hgm⟩ := hvm
  have hk5 : Kp (fun _ => False) w4 w5 := ⟨hb5.os, hb5.tape, hb5.output, hb5.size, fun k hk _ => hb5.block k hk⟩
  have hk25 : Kp (fun x => x = G.R) w2 w5 := hk4'.trans (hk5.mono fun k h => h.elim)
  have hlts := HI4.out.lts
  have HI5 : Hid (RI G w5 c1 p) := HI4.out.keep hk5 id id id id
  have HC5 : Hid (∀ j, j < p - c1 → w5.cell? ⟨G.U, o + j, none⟩ = some (.int .u8 (G.D (c1 + j)))) := fun j hj => hk5.cell id (HCe.out j hj)
  have hRg : G.R ≠ g0 := by omega
  have HO5 : Hid (w5.ownsRow w.heap.size 22 1 (.slice (some ⟨g0, 0, none⟩) 1 1) 1 [.slice (some ⟨N, 0, none⟩) (2 + b) (2 + b)]) := own_kp HO2.out hk25 (fun g h => by simp [Value.ownBlock] at h; omega)
  have HF5 : Hid (Fr G.D c w5 [.slice (some ⟨N, 0, none⟩) (2 + b) (2 + b)] 1) := HF2.out.keep hk25 (fun N' cs h e => by
    subst e
    exact hRt.out cs h)
  have hK5 : Kp (fun x => x = G.R ∨ x = G.U ∨ x = G.Y) w w5 := hK2.trans (hk25.mono fun k h => Or.inl h)
  have hz4 : g0 < w4.heap.size := Nat.lt_of_lt_of_le hg2 hk4'.size
  have hz5 : w4.heap.size ≤ w5.heap.size := hb5.size
  clear HI4 HCe HF2 HO2 hk4' hk5 hk25 hb5 hK2
  go_wp2_with fail
  go_loopw [6, 12, 38] (fun a _ t wr => ∃ i g cap xs, i ≤ m ∧ t = .int .i64 ((i : Nat) : Int) ∧ a = .slice (some ⟨g, 0, none⟩) (i + 1) cap ∧ wr.ownsRow w.heap.size 22 1 (.slice (some ⟨g, 0, none⟩) (i + 1) cap) (i + 1) xs ∧ Fr G.D c wr xs (i + 1) ∧ (g = g0 ∨ w5.heap.size ≤ g) ∧ Kp (fun y => y = g0) w5 wr) (fun _ _ t _ => m - (intOf t).toNat)
  case atStart => exact ⟨0, g0, 1, _, Nat.zero_le _, rfl, rfl, HO5.out, HF5.out, Or.inl rfl, Kp.refl _ _⟩
  case round =>
    obtain ⟨i, g, cap, xs, hi, rfl, rfl, hown, hfr, hgg, hk⟩ := hrel
    have HO : Hid (wr.ownsRow w.heap.size 22 1 (.slice (some ⟨g, 0, none⟩) (i + 1) cap) (i + 1) xs) := hown
    have HF : Hid (Fr G.D c wr xs (i + 1)) := hfr
    clear hown hfr
    by_cases hlt : i < m
    · obtain ⟨gm, rfl, hgm4⟩ := hgm (by omega)
      have hlt' : (i : Int) < (m : Int) := by omega
      obtain ⟨s, hs⟩ : ∃ s, s = stp G.D c1 i - c1 := ⟨_, rfl⟩
      obtain ⟨q, hq⟩ : ∃ q, q = bd G.D (stp G.D c1 i) := ⟨_, rfl⟩
      have hge := stp_ge G.D c1 i
      have hfit : c1 + s + 2 + q ≤ p := by
        have h1 := HCut.out.1 i hlt
        have h2 : stp G.D c1 (i + 1) = stp G.D c1 i + 2 + bd G.D (stp G.D c1 i) := rfl
        omega
      have m1 : wr.cell? ⟨gm, i, none⟩ = some (.slice (some ⟨G.U, o + s, none⟩) (2 + q) (2 + q)) := by
        refine hk.cell (by show ¬ gm = g0; omega) ?_
        rw [HOm.out.cellAt i (by omega), cuts, List.getElem?_map, List.getElem?_range hlt, hs, hq]; rfl
      have HCc : Hid (∀ j, j < 2 + q → wr.cell? ⟨G.U, o + s + j, none⟩ = some (.int .u8 (G.D (stp G.D c1 i + j)))) := fun j hj => by
        have h1 := hk.cell (by show ¬ G.U = g0; omega) (HC5.out (s + j) (by omega))
        rw [show o + s + j = o + (s + j) from by omega, h1, show c1 + (s + j) = stp G.D c1 i + j from by omega]
      have HQ : Hid (q = bd G.D (stp G.D c1 i)) := hq
      have hqm : 2 + q ≤ 1048576 := by omega
      have hi20 : i + 1 ≤ 1048576 := by omega
      have HS : Hid (stp G.D c1 i = stp G.D c (i + 1)) := by show stp G.D c1 i = _; rw [HC1.out, stp_shift]
      clear hs hq hge
      go_wp2_with fail
      refine (bclone G.U (o + s) (2 + q) (2 + q) (fun j => G.D (stp G.D c1 i + j)) wr (by omega) hqm HCc.out).mono ?_
      rintro e w6 ⟨g6, cap6, rfl, hg6, hc6, ⟨cs6, ht6⟩, hb6⟩
      have hk6 : Kp (fun _ => False) wr w6 := ⟨hb6.os, hb6.tape, hb6.output, hb6.size, fun k hk _ => hb6.block k hk⟩
      have HO6 : Hid (w6.ownsRow w.heap.size 22 1 (.slice (some ⟨g, 0, none⟩) (i + 1) cap) (i + 1) xs) := own_kp HO.out hk6 (fun _ _ => id)
      have HF6 : Hid (Fr G.D c w6 xs (i + 1)) := HF.out.keep hk6 (fun _ _ _ => id)
      have HC6 : Hid (∀ j, j < 2 + q → w6.cell? ⟨g6, j, none⟩ = some (.int .u8 (G.D (stp G.D c1 i + j)))) := hc6
      have HT6 : Hid (w6.heap[g6]? = some (.cells cs6 5 (0, 0))) := ht6
      have hbs : w.heap.size ≤ w6.heap.size := by have h1 := hK5.size; have h2 := hk.size; have h3 := hk6.size; omega
      clear hc6 ht6 hb6 HCc m1
      go_wp2_with (at_builtin; refine wpList_app rfl (.tmp 42) (.tmp 45) rfl (.slice (some ⟨g, 0, none⟩) (i + 1) cap) (.slice (some ⟨g6, 0, none⟩) (2 + q) cap6) (i + 1) w.heap.size xs w6 rfl rfl rfl HO6.out hi20 hbs ?_; intro g7 cap7 w7 HO7 hk7 hg7 hat7)
      have hk7' : Kp (fun y => y = g) w6 w7 := ⟨hk7.os, hk7.tape, hk7.output, hk7.size, fun y hy hn => hk7.block y hy (fun e => hn (by simp [Value.ownBlock] at e; omega))⟩
      have HF7 : Hid (Fr G.D c w7 (xs ++ [.slice (some ⟨g6, 0, none⟩) (2 + q) cap6]) (i + 1 + 1)) := by
        have hne : ∀ N' cs, w6.heap[N']? = some (.cells cs 5 (0, 0)) → ¬ N' = g := fun N' cs h e => by subst e; exact own_type HO6.out cs h
        have h1 := HF6.out.keep hk7' hne
        have hq2 : 2 + q = 2 + bd G.D (stp G.D c (i + 1)) := by rw [HQ.out, HS.out]
        rw [hq2]
        refine h1.snoc (by have := HO6.out.1; omega) g6 cap6 cs6 (hk7'.heap (hne g6 cs6 HT6.out) HT6.out) (fun j hj => ?_)
        rw [← HS.out]
        exact hk7'.cell (by exact hne g6 cs6 HT6.out) (HC6.out j (by omega))
      have hk8 : Kp (fun y => y = g0) w5 w7 := by
        have h6 : Kp (fun y => y = g0) w5 w6 := hk.trans (hk6.mono fun k h => h.elim)
        refine ⟨hk7'.os.trans h6.os, hk7'.tape.trans h6.tape, hk7'.output.trans h6.output, Nat.le_trans h6.size hk7'.size, fun y hy hn => (hk7'.block y (Nat.lt_of_lt_of_le hy h6.size) (fun e => ?_)).trans (h6.block y hy hn)⟩
        exact hgg.elim (fun h => hn (Eq.trans e h)) (fun h => absurd hy (by have e' : y = g := e; omega))
      have hg8 : g7 = g0 ∨ w5.heap.size ≤ g7 := by
        rcases hat7 with h | h
        · have h' : g = g7 := by simpa [Value.ownBlock] using h
          rw [← h']; exact hgg
        · exact Or.inr (Nat.le_trans (Nat.le_trans hk.size hk6.size) h)
      clear hat7
      clear HF6 HC6 HT6 hk7 hk7' hk6 HO6
      go_wp2_with fail
      go_roundw
      case rel => exact ⟨i + 1, g7, cap7, _, by omega, by go_num, rfl, HO7.out, HF7.out, hg8, hk8⟩
      case measure => simp [intOf]; omega
    · obtain rfl : i = m := by omega
      go_wp2_with fail
      have hge := stp_ge G.D c1 i
      have hcut := HCut.out.stp_le (by omega)
      have HIr : Hid (RI G wr c1 p) := HI5.out.keep hk (by omega) (by omega) (by omega) (by omega)
      refine (discard_some G ok c1 p (stp G.D c1 i - c1) wr HIr.out (by omega)).mono ?_
      rintro e w7 ⟨rfl, hI7, hk7⟩
      have HI7 : Hid (RI G w7 (c1 + (stp G.D c1 i - c1)) p) := hI7
      clear hI7
      have hstp : stp G.D c1 i = stp G.D c (i + 1) := by rw [HC1.out, stp_shift]
      have hstp2 : stp G.D c1 (i + 1) = stp G.D c (i + 2) := by rw [HC1.out, stp_shift]
      have HO7 : Hid (w7.ownsRow w.heap.size 22 1 (.slice (some ⟨g, 0, none⟩) (i + 1) cap) (i + 1) xs) := own_kp HO.out hk7 (fun y h e => by
        subst e
        simp [Value.ownBlock] at h
        omega)
      have HF7 : Hid (Fr G.D c w7 xs (i + 1)) := HF.out.keep hk7 (fun N' cs h e => by subst e; exact HIr.out.rtype cs h)
      have HH : Hid (c1 + (stp G.D c1 i - c1) = stp G.D c (i + 1) ∧ (∀ j, j < i + 1 → stp G.D c (j + 1) ≤ G.n) ∧ (p = G.n → ¬ stp G.D c (i + 2) ≤ G.n)) := by
        refine ⟨by omega, fun j hj => ?_, fun hp => ?_⟩
        · cases j with
          | zero => have h := HC1.out; rw [← h]; omega
          | succ j =>
            have h1 := HCut.out.1 j (by omega)
            rw [HC1.out, stp_shift, ← HC1.out] at h1
            omega
        · have h1 := HCut.out.2
          rw [hstp2] at h1
          omega
      clear hstp hstp2 hge hcut
      go_wp2_with fail
      go_ret2
      refine ⟨g, cap, i, p, xs, rfl, HH.out.2.1, by have := HO7.out.1; omega, fun j hj => HO7.out.cellAt j (by omega), HF7.out, by rw [← HH.out.1]; exact HI7.out, ?_, fun h1 h2 => HH.out.2.2 (HP.out.2 h1 h2)⟩
      have hk' : Kp (fun x => x = G.R ∨ x = G.U ∨ x = G.Y ∨ x = g0) w w7 := ((hK5.mono fun y h => by omega).trans (hk.mono fun y h => by omega)).trans (hk7.mono fun y h => by omega)
      exact kp_drop hk' (Kp.refl _ _) hgw
end Go.Proofs.Qxb6618769aFmt
