import Derived.Shelf.Bin.BEUint16
import Derived.Test.Qxb6618769aFmtRows
namespace Go.Proofs.Qxb6618769aFmt
open Go.Shelf
def Tryf.laysBin36_ren : Go.Shelf.Ren := ⟨fun | 36 => 24 | n => n, fun | 37 => 59 | 22 => 22 | 23 => 57 | 0 => 0 | 5 => 5 | 45 => 66 | n => n, fun | n => n⟩
theorem Tryf.laysBin36 : Go.Proofs.LaysBin.n36 Tryf.prog Tryf.laysBin36_ren := {
  mixed := by kernel_rfl
  f36 := Tryf.func24.trans (congrArg some (by kernel_rfl))
  t0 := Tryf.underlying0
  a0 := Tryf.isAgg0
  z0 := Tryf.sizeOf0
  v0 := Tryf.zeroValue0
  i0 := by kernel_rfl
  t5 := Tryf.underlying5
  a5 := Tryf.isAgg5
  z5 := Tryf.sizeOf5
  v5 := Tryf.zeroValue5
  i5 := by kernel_rfl
  t22 := Tryf.underlying22
  a22 := Tryf.isAgg22
  z22 := Tryf.sizeOf22
  v22 := Tryf.zeroValue22
  i22 := by kernel_rfl
  t23 := Tryf.underlying57
  a23 := Tryf.isAgg57
  z23 := Tryf.sizeOf57
  v23 := Tryf.zeroValue57
  i23 := by kernel_rfl
  t37 := Tryf.underlying59
  a37 := Tryf.isAgg59
  z37 := Tryf.sizeOf59
  v37 := Tryf.zeroValue59
  i37 := by kernel_rfl
  t45 := Tryf.underlying66
  a45 := Tryf.isAgg66
  z45 := Tryf.sizeOf66
  v45 := Tryf.zeroValue66
  i45 := by kernel_rfl }
open Go.RowKit in
/-- binary.BigEndian.Uint16: THE NUMBER THAT THE FIRST 2 BYTES SPELL, the greatest byte first ('Lib.beNat'). Of what was there nothing has turned (the receiver, an empty struct, is laid in a new block without cells; the statement's order is drawn). (LAID: no walk: one application.) -/
theorem Tryf.binary_BE_Uint16 (g o n c : Nat) (b0 b1 : UInt8) (w : World) (hn : 2 ≤ n) (c0 : w.cell? ⟨g, o, none⟩ = some (.int .u8 b0.toNat)) (c1 : w.cell? ⟨g, o + 1, none⟩ = some (.int .u8 b1.toNat)) :
    Calls Tryf.prog 24 #[.agg #[], .slice (some ⟨g, o, none⟩) n c] w fun e w' => e = .returned (.int .u16 (Lib.beNat [b0, b1])) ∧ Below w.heap.size w w' := Any.binary_BE_Uint16 Tryf.laysBin36 g o n c b0 b1 w hn c0 c1

open Go.RowKit in
/-- The same, of the numbers themselves. -/
theorem be16 (g o n c : Nat) (x y : Int) (w : World) (hn : 2 ≤ n) (hx : 0 ≤ x ∧ x < 256) (hy : 0 ≤ y ∧ y < 256) (c0 : w.cell? ⟨g, o, none⟩ = some (.int .u8 x)) (c1 : w.cell? ⟨g, o + 1, none⟩ = some (.int .u8 y)) :
    Calls Tryf.prog 24 #[.agg #[], .slice (some ⟨g, o, none⟩) n c] w fun e w' => e = .returned (.int .u16 ((x * 256 + y).toNat : Int)) ∧ Below w.heap.size w w' := by
  have ex : x = ((UInt8.ofNat x.toNat).toNat : Int) := by simp [UInt8.toNat_ofNat']; omega
  have ey : y = ((UInt8.ofNat y.toNat).toNat : Int) := by simp [UInt8.toNat_ofNat']; omega
  refine (Tryf.binary_BE_Uint16 g o n c (UInt8.ofNat x.toNat) (UInt8.ofNat y.toNat) w hn (by rw [← ex]; exact c0) (by rw [← ey]; exact c1)).mono ?_
  rintro e w' ⟨h1, h2⟩
  refine ⟨h1.trans ?_, h2⟩
  simp [Lib.beNat, Lib.beFrom]
  omega
end Go.Proofs.Qxb6618769aFmt
