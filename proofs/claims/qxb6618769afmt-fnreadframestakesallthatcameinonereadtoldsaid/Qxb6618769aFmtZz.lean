import Derived.Test.Qxb6618769aFmtFrames
import Derived.OwnWalk
namespace Go.Proofs.Qxb6618769aFmt
open Go.Extern.Stop Go.Stop Go.Extern Go.RowKit
set_option linter.unusedVariables false
set_option maxRecDepth 100000

theorem eqWrap (a b : Addr) (w : World) : (binOp .eql 37 (.iface 65 (.pointer (some a))) (.iface 68 (.pointer (some b)))).run Tryf.prog w = .ok (.bool false) w := by kernel_rfl

/-- A failing read: no frames, and an error, which is io.EOF itself at the data's end alone. -/
def FailPost (G : Geo) (c : Nat) (ae : Addr) (w : World) (e : Ending) (w' : World) : Prop :=
  ∃ ev, e = .returned (.tuple #[.slice none 0 0, ev]) ∧ (ev = .iface 68 (.pointer (some ae)) ∧ c = G.n ∨ c < G.n ∧ ∃ N, ev = .iface 65 (.pointer (some ⟨N, 0, none⟩))) ∧ Kp (fun x => x = G.R ∨ x = G.U ∨ x = G.Y) w w'

theorem readFrame_fail (F : Interp) (G : Geo) (ok : G.Ok) (M : Nat) (hlo : G.Lo M) (c pos : Nat) (ae au : Addr) (su : ByteArray) (w : World) (hB : ∀ j, 0 ≤ G.D j ∧ G.D j < 256) (hI : RI G w c pos) (hS : Sen M ae au su w) (hF : F.answers w.tape)
    (hw : ¬ whole G c) (hc : c ≤ G.n) (nB : G.B < w.heap.size) (nM : M ≤ w.heap.size) :
    Calls Tryf.prog 16 #[.iface 28 (.pointer (some ⟨G.R, 0, none⟩))] w fun e w' => FailPost G c ae w e w' := by
  by_cases h : c + 2 ≤ G.n
  · exact readFrame_torn F G ok M hlo c pos ae au su w hB hI hS hF h (by unfold whole at hw; omega) nB nM
  · exact readFrame_short F G ok M hlo c pos ae au su w hB hI hS hF hc (by omega) nB nM

set_option maxHeartbeats 1000000 in
theorem zz_fail (F : Interp) (G : Geo) (ok : G.Ok) (M : Nat) (hlo : G.Lo M) (c pos : Nat) (ae au : Addr) (su : ByteArray) (w : World) (hB : ∀ j, 0 ≤ G.D j ∧ G.D j < 256) (hI : RI G w c pos) (hS : Sen M ae au su w) (hF : F.answers w.tape)
    (hw : ¬ whole G c) (hc : c ≤ G.n) (nB : G.B < w.heap.size) (nM : M ≤ w.heap.size) :
    Calls Tryf.prog 9 #[.pointer (some ⟨G.R, 0, none⟩)] w fun e w' => e = .returned (.tuple #[.slice none 0 0, .bool true, .bool (decide (c = G.n))]) ∧ Kp (fun x => x = G.R ∨ x = G.U ∨ x = G.Y) w w' := by
  have H16 := readFrame_fail F G ok M hlo c pos ae au su w hB hI hS hF hw hc nB nM
  have HS : Hid (Sen M ae au su w) := hS
  have HM : Hid (∀ k, (k = G.R ∨ k = G.U ∨ k = G.Y) → M ≤ k) := fun k h => by have := hlo.r; have := hlo.u; have := hlo.y; omega
  clear hI hS hF
  have H14 : Calls Tryf.prog 14 #[.pointer (some ⟨G.R, 0, none⟩)] w fun e w' => FailPost G c ae w e w' := by
    by_cases hcn : c = G.n
    · have H : Calls Tryf.prog 16 #[.iface 28 (.pointer (some ⟨G.R, 0, none⟩))] w fun e w' => e = .returned (.tuple #[.slice none 0 0, .iface 68 (.pointer (some ae))]) ∧ Kp (fun x => x = G.R ∨ x = G.U ∨ x = G.Y) w w' := H16.mono fun e w' ⟨ev, h1, h2, h3⟩ => by
        rcases h2 with ⟨rfl, _⟩ | ⟨h, _⟩
        · exact ⟨h1, h3⟩
        · omega
      clear H16 HS
      go_enter Tryf.func14, Tryf.ntmps14
      go_wp2_with (go_at_call 16; refine H.mono ?_; rintro e w1 ⟨rfl, hk⟩)
      go_ret2
      exact ⟨_, rfl, Or.inl ⟨rfl, hcn⟩, hk⟩
    · have H : Calls Tryf.prog 16 #[.iface 28 (.pointer (some ⟨G.R, 0, none⟩))] w fun e w' => ∃ N, e = .returned (.tuple #[.slice none 0 0, .iface 65 (.pointer (some ⟨N, 0, none⟩))]) ∧ Kp (fun x => x = G.R ∨ x = G.U ∨ x = G.Y) w w' := H16.mono fun e w' ⟨ev, h1, h2, h3⟩ => by
        rcases h2 with ⟨_, h⟩ | ⟨_, N, rfl⟩
        · omega
        · exact ⟨N, h1, h3⟩
      clear H16 HS
      go_enter Tryf.func14, Tryf.ntmps14
      go_wp2_with (go_at_call 16; refine H.mono ?_; rintro e w1 ⟨N, rfl, hk⟩)
      go_ret2
      exact ⟨_, rfl, Or.inr ⟨by omega, N, rfl⟩, hk⟩
  clear H16
  by_cases hcn : c = G.n
  · have H : Calls Tryf.prog 14 #[.pointer (some ⟨G.R, 0, none⟩)] w fun e w' => e = .returned (.tuple #[.slice none 0 0, .iface 68 (.pointer (some ae))]) ∧ Kp (fun x => x = G.R ∨ x = G.U ∨ x = G.Y) w w' := H14.mono fun e w' ⟨ev, h1, h2, h3⟩ => by
      rcases h2 with ⟨rfl, _⟩ | ⟨h, _⟩
      · exact ⟨h1, h3⟩
      · omega
    clear H14
    have heq := fun w => eqEOF ae w
    have hd : decide (c = G.n) = true := by simpa using hcn
    rw [hd]
    clear hd hcn
    go_enter Tryf.func9, Tryf.ntmps9
    go_wp2_with (go_at_call 14; refine H.mono ?_; rintro e w1 ⟨rfl, hk⟩; have s0 := (HS.out.keep hk HM.out).e0)
    go_quiet (fail)
    go_wp2
    go_ret3
    exact ⟨rfl, hk.drewN _⟩
  · have H : Calls Tryf.prog 14 #[.pointer (some ⟨G.R, 0, none⟩)] w fun e w' => ∃ N, e = .returned (.tuple #[.slice none 0 0, .iface 65 (.pointer (some ⟨N, 0, none⟩))]) ∧ Kp (fun x => x = G.R ∨ x = G.U ∨ x = G.Y) w w' := H14.mono fun e w' ⟨ev, h1, h2, h3⟩ => by
      rcases h2 with ⟨_, h⟩ | ⟨_, N, rfl⟩
      · omega
      · exact ⟨N, h1, h3⟩
    clear H14
    have hd : decide (c = G.n) = false := by simpa using hcn
    rw [hd]
    clear hd
    go_enter Tryf.func9, Tryf.ntmps9
    go_wp2_with (go_at_call 14; refine H.mono ?_; rintro e w1 ⟨N, rfl, hk⟩; have s0 := (HS.out.keep hk HM.out).e0; have heq := fun w => eqWrap ⟨N, 0, none⟩ ae w)
    go_quiet (fail)
    go_wp2
    go_ret3
    exact ⟨rfl, hk.drewN _⟩

/-- What ZZReadFrames hands back at a whole message. -/
def ZzPost (G : Geo) (c pos : Nat) (w : World) (e : Ending) (w' : World) : Prop := ∃ g cap m p xs, e = .returned (.tuple #[.slice (some ⟨g, 0, none⟩) (m + 1) cap, .bool false, .bool false]) ∧ (∀ i, i < m + 1 → stp G.D c (i + 1) ≤ G.n) ∧
  xs.length = m + 1 ∧ (∀ j, j < m + 1 → w'.cell? ⟨g, j, none⟩ = xs[j]?) ∧ Fr G.D c w' xs (m + 1) ∧ RI G w' (stp G.D c (m + 1)) p ∧ Kp (fun x => x = G.R ∨ x = G.U ∨ x = G.Y) w w' ∧ (pos = c → G.n - c ≤ G.SZ → ¬ stp G.D c (m + 2) ≤ G.n)

set_option maxHeartbeats 1000000 in
theorem zz_whole (F : Interp) (G : Geo) (ok : G.Ok) (M : Nat) (hlo : G.Lo M) (c pos : Nat) (ae au : Addr) (su : ByteArray) (w : World) (hB : ∀ j, 0 ≤ G.D j ∧ G.D j < 256) (hI : RI G w c pos) (hS : Sen M ae au su w) (hw : whole G c)
    (nB : G.B < w.heap.size) (nM : M ≤ w.heap.size) :
    Calls Tryf.prog 9 #[.pointer (some ⟨G.R, 0, none⟩)] w fun e w' => ZzPost G c pos w e w' := by
  have H := readFrames_whole F G ok M hlo c pos ae au su w hB hI hS hw nB nM
  clear hI hS hw
  go_enter Tryf.func9, Tryf.ntmps9
  go_wp2_with (go_at_call 14; refine H.mono ?_; rintro e w1 ⟨g, cap, m, p, xs, rfl, h1, h2, h3, h4, h5, h6, h7⟩; have HH : Hid ((∀ i, i < m + 1 → stp G.D c (i + 1) ≤ G.n) ∧ xs.length = m + 1 ∧ (∀ j, j < m + 1 → w1.cell? ⟨g, j, none⟩ = xs[j]?) ∧ Fr G.D c w1 xs (m + 1) ∧ RI G w1 (stp G.D c (m + 1)) p ∧ Kp (fun x => x = G.R ∨ x = G.U ∨ x = G.Y) w w1 ∧ (pos = c → G.n - c ≤ G.SZ → ¬ stp G.D c (m + 2) ≤ G.n)) := ⟨h1, h2, h3, h4, h5, h6, h7⟩; clear h1 h2 h3 h4 h5 h6 h7)
  go_quiet (fail)
  go_wp2
  go_ret3
  obtain ⟨h1, h2, h3, h4, h5, h6, h7⟩ := HH.out
  have hk := (Kp.refl (fun _ => False) w1).drewN nq
  exact ⟨g, cap, m, p, xs, rfl, h1, h2, h3, h4.keep hk (fun _ _ _ => id), h5.keep hk id id id id, h6.drewN _, h7⟩
end Go.Proofs.Qxb6618769aFmt
