import Derived.Test.Qxb6618769aFmtDir
import Derived.LaidEql
namespace Go.Proofs.Qxb6618769aFmt
open Go.RowKit
set_option linter.unusedVariables false
set_option maxRecDepth 100000
theorem ahead28 (x : Value) (w : World) : (nilAhead 193 28 x "Read").run Tryf.prog w = .ok (some false) w := by kernel_rfl
attribute [local go_sem] meth34 meth28 ahead28

/-- What a stretch of reading does to the stream's place: at its end it stays there; from an empty buffer that holds all that is left, a read of less than the buffer takes all in. -/
def Fp (G : Geo) (c pos L p : Nat) : Prop := (pos = G.n → p = G.n) ∧ (pos = c → G.n - c ≤ G.SZ → L < G.SZ → p = G.n)

/-- Read, within the data. -/
theorem read_any (G : Geo) (ok : G.Ok) (c pos pb po L pc t K : Nat) (g : Nat → Value) (w : World) (hL : 0 < L) (hLm : L ≤ 1048576) (hI : RI G w c pos) (hcn : c < G.n)
    (hP : w.rowIs pb t K g) (hfit : po + L ≤ K) (n1 : pb ≠ G.R) (n2 : pb ≠ G.U) (n3 : pb ≠ G.Y) (n4 : pb ≠ G.B) :
    Calls Tryf.prog 45 #[.pointer (some ⟨G.R, 0, none⟩), .slice (some ⟨pb, po, none⟩) L pc] w fun e w' => ∃ k p, 1 ≤ k ∧ k ≤ L ∧ c + k ≤ G.n ∧ e = .returned (.tuple #[.int .i64 (k : Int), .nilIface]) ∧ RI G w' (c + k) p ∧
      w'.rowIs pb t K (over g po k (fun j => .int .u8 (G.D (c + j)))) ∧ Kp (fun x => x = G.R ∨ x = G.U ∨ x = G.Y ∨ x = pb) w w' ∧ Fp G c pos L p := by
  have hc1 := hI.1
  have hc2 := hI.2.1
  have hsz := ok.sz16
  by_cases hcp : c < pos
  · refine (read_buf G ok c pos pb po L pc t K g w hL hLm hI hcp hP hfit n1 n2 _ rfl n3 n4).mono ?_
    rintro e w' ⟨h1, h2, h3, h4⟩
    exact ⟨_, pos, by omega, by omega, by omega, h1, h2, h3, h4.mono (fun x h => h.elim Or.inl (fun h => Or.inr (Or.inr (Or.inr h)))), fun h => h, fun h => by omega⟩
  · obtain rfl : pos = c := by omega
    by_cases hLs : L < G.SZ
    · refine (read_fill G ok pos pb po L pc t K g w hL hLs hI hcn hP hfit n1 n2 _ _ rfl rfl n3 n4).mono ?_
      rintro e w' ⟨h1, h2, h3, h4⟩
      exact ⟨_, _, by omega, by omega, by omega, h1, h2, h3, h4, fun h => by omega, fun _ h _ => by omega⟩
    · refine (read_direct G ok pos pb po L pc t K g w (by omega) hLm hI hcn hP hfit n1 n2 _ rfl n3 n4).mono ?_
      rintro e w' ⟨h1, h2, h3, h4⟩
      exact ⟨_, _, by omega, by omega, by omega, h1, h2, h3, h4, fun h => by omega, fun _ _ h => by omega⟩

theorem over_zero (g h : Nat → Value) (o j : Nat) : over g o 0 h j = g j := over_out (by omega)
theorem over_over {g h : Nat → Value} {o i k : Nat} {h2 : Nat → Value} (hh : ∀ j, j < k → h2 j = h (i + j)) (j : Nat) : over (over g o i h) (o + i) k h2 j = over g o (i + k) h j := by
  unfold over
  by_cases a : o + i ≤ j ∧ j < o + i + k
  · rw [if_pos a, if_pos (by omega), hh _ (by omega)]; congr 1; omega
  · rw [if_neg a]
    by_cases b : o ≤ j ∧ j < o + i
    · rw [if_pos b, if_pos (by omega)]
    · rw [if_neg b, if_neg (by omega)]

theorem eqEOF (a : Addr) (w : World) : (binOp .eql 37 (.iface 68 (.pointer (some a))) (.iface 68 (.pointer (some a)))).run Tryf.prog w = .ok (.bool true) w :=
  run_eql_iface_ptr_same w a Tryf.underlying37 Tryf.underlying68 (i := Tryf.t68) (by kernel_rfl) (by kernel_rfl) (j := Tryf.t70) (by kernel_rfl)

/-- What ReadAtLeast hands back: a full buffer; or the data's end, with what is left. -/
def AtPost (G : Geo) (c pos pb po L t K : Nat) (g : Nat → Value) (ae au : Addr) (e : Ending) (w' : World) : Prop :=
  (c + L ≤ G.n → e = .returned (.tuple #[.int .i64 (L : Int), .nilIface]) ∧ ∃ p, RI G w' (c + L) p ∧ w'.rowIs pb t K (over g po L (fun j => .int .u8 (G.D (c + j)))) ∧ (L = 0 ∧ p = pos ∨ Fp G c pos L p)) ∧
  (G.n < c + L → e = .returned (.tuple #[.int .i64 ((G.n - c : Nat) : Int), .iface 68 (.pointer (some (if c = G.n then ae else au)))]) ∧ RI G w' G.n G.n)

set_option maxHeartbeats 1000000 in
theorem atLeast (G : Geo) (ok : G.Ok) (c pos pb po L pc t K : Nat) (g : Nat → Value) (ae au : Addr) (w : World) (hLm : L ≤ 1048576) (hpc : L ≤ pc) (hI : RI G w c pos) (hcn : c ≤ G.n)
    (hP : w.rowIs pb t K g) (hfit : po + L ≤ K) (n1 : pb ≠ G.R) (n2 : pb ≠ G.U) (n3 : pb ≠ G.Y) (n4 : pb ≠ G.B) (n5 : 8 ≤ pb)
    (hE : w.cell? ⟨0, 0, none⟩ = some (.iface 68 (.pointer (some ae)))) (hE2 : w.cell? ⟨2, 0, none⟩ = some (.iface 68 (.pointer (some au)))) :
    Calls Tryf.prog 27 #[.iface 28 (.pointer (some ⟨G.R, 0, none⟩)), .slice (some ⟨pb, po, none⟩) L pc, .int .i64 L] w fun e w' => Kp (fun x => x = G.R ∨ x = G.U ∨ x = G.Y ∨ x = pb) w w' ∧ AtPost G c pos pb po L t K g ae au e w' := by
  have HI : Hid (RI G w c pos) := hI
  have HP : Hid (w.rowIs pb t K g) := hP
  have HE : Hid (w.cell? ⟨0, 0, none⟩ = some (.iface 68 (.pointer (some ae)))) := hE
  have HE2 : Hid (w.cell? ⟨2, 0, none⟩ = some (.iface 68 (.pointer (some au)))) := hE2
  clear hI hP hE hE2
  have hz0 : ¬ (0 = G.R ∨ 0 = G.U ∨ 0 = G.Y ∨ 0 = pb) := by have := ok.r8; have := ok.u8; have := ok.y8; omega
  have hz2 : ¬ (2 = G.R ∨ 2 = G.U ∨ 2 = G.Y ∨ 2 = pb) := by have := ok.r8; have := ok.u8; have := ok.y8; omega
  have heq := fun w => eqEOF ae w
  have hnm := ok.nmax
  go_enter Tryf.func27, Tryf.ntmps27
  go_wp2
  go_loopw [6, 7, 8] (fun a b d wr => ∃ (i p : Nat), i ≤ L ∧ a = .int .i64 i ∧ c + i ≤ G.n ∧ (b = .nilIface ∨ b = .iface 68 (.pointer (some ae)) ∧ c + i = G.n ∧ i < L) ∧ RI G wr (c + i) p ∧ wr.rowIs pb t K (over g po i (fun j => .int .u8 (G.D (c + j)))) ∧
    (i = 0 ∧ p = pos ∨ Fp G c pos L p) ∧ Kp (fun x => x = G.R ∨ x = G.U ∨ x = G.Y ∨ x = pb) w wr) (fun a b _ _ => L - (intOf a).toNat + (match b with | .nilIface => 1 | _ => 0))
  case atStart => exact ⟨0, pos, Nat.zero_le _, rfl, hcn, Or.inl rfl, HI.out, HP.out.congr (fun j _ => (over_zero _ _ _ _).symm), Or.inl ⟨rfl, rfl⟩, Kp.refl _ _⟩
  case round =>
    obtain ⟨i, p, hi, rfl, hci, hb, hI, hrow, hf, hk⟩ := hrel
    have HIr : Hid (RI G wr (c + i) p) := hI
    have HR : Hid (wr.rowIs pb t K (over g po i (fun j => .int .u8 (G.D (c + j))))) := hrow
    have HF : Hid (i = 0 ∧ p = pos ∨ Fp G c pos L p) := hf
    have HEr : Hid (wr.cell? ⟨0, 0, none⟩ = some (.iface 68 (.pointer (some ae)))) := hk.cell hz0 HE.out
    have e0 := HEr.out
    have e2 : wr.cell? ⟨2, 0, none⟩ = some (.iface 68 (.pointer (some au))) := hk.cell hz2 HE2.out
    clear hrow hI hf
    rcases hb with rfl | ⟨rfl, hcn2, hiL⟩
    · by_cases hlt : i < L
      · have hlt' : (i : Int) < (L : Int) := by omega
        have hpi : ¬ pc = i := by omega
        go_wp2
        by_cases hcl : c + i < G.n
        · go_region_held (fun _ => True) (trivial)
            ((go_at_call 45; refine (read_any G ok (c + i) p pb (po + i) (L - i) (pc - i) t K (over g po i (fun j => .int .u8 (G.D (c + j)))) wr.drew (by omega) (by omega) (by exact HIr.out) hcl (by exact HR.out) (by omega) n1 n2 n3 n4).mono ?_; rintro e w2 ⟨k, p2, hk1, hk2, hk3, rfl, hI2, hP2, hk4, hF2⟩; have HI2 : Hid (RI G w2 (c + i + k) p2) := hI2; have HP2 : Hid (w2.rowIs pb t K (over (over g po i (fun j => .int .u8 (G.D (c + j)))) (po + i) k (fun j => .int .u8 (G.D (c + i + j))))) := hP2; have HF2 : Hid (Fp G (c + i) p (L - i) p2) := hF2; clear hI2 hP2 hF2))
          have hk5 : Kp (fun x => x = G.R ∨ x = G.U ∨ x = G.Y ∨ x = pb) wr w2 := hk4.fromDrew
          clear hk4 e0 e2
          go_wp2
          go_roundw
          case rel =>
            refine ⟨i + k, p2, by omega, by go_num, by omega, Or.inl rfl, by rw [show c + (i + k) = c + i + k from by omega]; exact HI2.out, HP2.out.congr (fun j _ => over_over (fun j _ => by show Value.int .u8 (G.D (c + i + j)) = Value.int .u8 (G.D (c + (i + j))); rw [Nat.add_assoc]) j), Or.inr ?_, hk.trans hk5⟩
            obtain ⟨q1, q2⟩ := HF2.out
            rcases HF.out with ⟨z1, z2⟩ | z
            · subst z1 z2
              exact ⟨q1, fun a b d => q2 a b d⟩
            · exact ⟨fun h => q1 (z.1 h), fun a b d => q1 (z.2 a b d)⟩
          case measure => simp [intOf]; omega
        · have hcn2 : c + i = G.n := by omega
          have hIn : RI G wr G.n G.n := by
            have h := HIr.out
            rw [hcn2] at h
            have hp : p = G.n := Nat.le_antisymm h.2.1 h.1
            rwa [hp] at h
          go_region_held (fun _ => True) (trivial)
            ((go_at_call 45; refine (read_end G ok pb (po + i) (L - i) (pc - i) t K g ae wr.drew (by omega) (by omega) (by exact hIn) (by exact HEr.out)).mono ?_; rintro e w2 ⟨rfl, hI2, hk4⟩; have HI2 : Hid (RI G w2 G.n G.n) := hI2; clear hI2))
          have hk5 : Kp (fun x => x = G.R) wr w2 := hk4.fromDrew
          clear hk4 e0 e2
          go_wp2
          go_roundw
          case rel =>
            refine ⟨i, G.n, hi, by go_num, hci, Or.inr ⟨rfl, hcn2, hlt⟩, by rw [hcn2]; exact HI2.out, hk5.row n1 HR.out, ?_, hk.trans (hk5.mono fun y h => Or.inl h)⟩
            have hp : p = G.n := by have h := HIr.out; have := h.1; have := h.2.1; omega
            rw [← hp]; exact HF.out
          case measure => simp [intOf]
      · obtain rfl : i = L := by omega
        go_wp2
        go_ret2
        refine ⟨hk, fun _ => ⟨rfl, p, HIr.out, HR.out, HF.out⟩, fun h => by omega⟩
    · have hlt' : (i : Int) < (L : Int) := by omega
      have hIn : RI G wr G.n G.n := by
        have h := HIr.out
        rw [hcn2] at h
        have hp : p = G.n := Nat.le_antisymm h.2.1 h.1
        rwa [hp] at h
      have HIn : Hid (RI G wr G.n G.n) := hIn
      clear hIn
      by_cases hi0 : 0 < i
      · go_wp2
        go_ret2
        refine ⟨hk, fun h => by omega, fun _ => ⟨?_, HIn.out⟩⟩
        rw [if_neg (by omega), show G.n - c = i from by omega]; rfl
      · obtain rfl : i = 0 := by omega
        go_wp2
        go_ret2
        refine ⟨hk, fun h => by omega, fun _ => ⟨?_, HIn.out⟩⟩
        rw [if_pos (by omega), show G.n - c = 0 from by omega]; rfl
end Go.Proofs.Qxb6618769aFmt
