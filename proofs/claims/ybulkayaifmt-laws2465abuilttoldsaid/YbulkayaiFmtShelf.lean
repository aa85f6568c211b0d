/-
  THE SHELF's CONTRACTS THAT THIS PROOF USES, AT THIS DUMP (laid by the guide's lay-shelf and lay-plain; the contracts that are not used are struck).
-/
import Derived.Test.YbulkayaiFmtRows
import Derived.Shelf.Strings.Builder1
import Derived.Shelf.Strconv.Itoa1
import Derived.Shelf.LaysM
import Derived.Shelf.Strconv.Itoa2
import Derived.Shelf.Bytes.SlEqualAll
namespace Go.Proofs
open Go.Shelf
/-- The table's name, as the given row lists it. -/
def Ybaf.tabN : String := YbulkayaiFmt.Rows.lawS2465ABuiltRow.named.headD YbulkayaiFmt.Rows.lawS2465ABuiltRow.func
def Ybaf.lays169_ren : Go.Shelf.Ren := ⟨fun | 169 => 43 | n => n, fun | 70 => 87 | 9 => 9 | 0 => 0 | 72 => 89 | 37 => 22 | 127 => 109 | 3 => 3 | 5 => 5 | n => n, fun | n => n⟩
theorem Ybaf.lays169 : Go.Proofs.Lays.n169 Ybaf.prog Ybaf.lays169_ren := {
  mixed := by kernel_rfl
  f169 := Ybaf.func43.trans (congrArg some (by kernel_rfl))
  t0 := Ybaf.underlying0
  a0 := Ybaf.isAgg0
  z0 := Ybaf.sizeOf0
  v0 := Ybaf.zeroValue0
  t3 := Ybaf.underlying3
  a3 := Ybaf.isAgg3
  z3 := Ybaf.sizeOf3
  v3 := Ybaf.zeroValue3
  t9 := Ybaf.underlying9
  a9 := Ybaf.isAgg9
  z9 := Ybaf.sizeOf9
  v9 := Ybaf.zeroValue9
  t37 := Ybaf.underlying22
  a37 := Ybaf.isAgg22
  z37 := Ybaf.sizeOf22
  v37 := Ybaf.zeroValue22
  t70 := Ybaf.underlying87
  a70 := Ybaf.isAgg87
  z70 := Ybaf.sizeOf87
  v70 := Ybaf.zeroValue87
  t72 := Ybaf.underlying89
  a72 := Ybaf.isAgg89
  z72 := Ybaf.sizeOf89
  v72 := Ybaf.zeroValue89
  t127 := Ybaf.underlying109
  a127 := Ybaf.isAgg109
  z127 := Ybaf.sizeOf109
  v127 := Ybaf.zeroValue109 }
theorem Ybaf.Builder_Extra_169 : Builder.Extra Ybaf.prog Ybaf.lays169_ren := {
  sizeBuilder := by kernel_rfl
  liesBuilder := by kernel_rfl
  t5 := Ybaf.underlying5
  a5 := Ybaf.isAgg5
  z5 := Ybaf.sizeOf5
  v5 := Ybaf.zeroValue5
  infoByte := by kernel_rfl
  cellsByte := by kernel_rfl
  sizeByte := by kernel_rfl
  neB5 := by decide }
open Go.RowKit in
theorem Ybaf.Builder_String (B b : Nat) (l : List UInt8) (w : World) (h : Lib.IsBuilder 89 5 B b (Lib.byteCells l) w) (h0 : l ≠ []) :
    Calls Ybaf.prog 43 #[.pointer (some ⟨b, 0, none⟩)] w fun e w' => e = .returned (.string ⟨l.toArray⟩) ∧ Below B w w' := Any.Builder_String Ybaf.lays169 Ybaf.Builder_Extra_169 B b l w h h0
def Ybaf.lays283_ren : Go.Shelf.Ren := ⟨fun | 283 => 57 | n => n, fun | 3 => 3 | 9 => 9 | 4 => 4 | n => n, fun | n => n⟩
theorem Ybaf.lays283 : Go.Proofs.Lays.n283 Ybaf.prog Ybaf.lays283_ren := {
  mixed := by kernel_rfl
  f283 := Ybaf.func57.trans (congrArg some (by kernel_rfl))
  t3 := Ybaf.underlying3
  a3 := Ybaf.isAgg3
  z3 := Ybaf.sizeOf3
  v3 := Ybaf.zeroValue3
  t4 := Ybaf.underlying4
  a4 := Ybaf.isAgg4
  z4 := Ybaf.sizeOf4
  v4 := Ybaf.zeroValue4
  t9 := Ybaf.underlying9
  a9 := Ybaf.isAgg9
  z9 := Ybaf.sizeOf9
  v9 := Ybaf.zeroValue9 }
open Go.Lib in
theorem Ybaf.internal_strconv_small (i : Nat) (h : i < 100) (w : World) :
    Calls Ybaf.prog 57 #[.int .i64 i] w fun e w' => e = .returned (.string ⟨(Lib.decDigits i).toArray⟩) ∧ w' = w := Any.internal_strconv_small Ybaf.lays283 i h w
def Ybaf.laysM284_ren : Go.Shelf.Ren := ⟨fun | 284 => 58 | 129 => 63 | 317 => 62 | 318 => 64 | n => n, fun | 53 => 86 | 3 => 3 | 212 => 128 | 0 => 0 | 4 => 4 | 46 => 48 | 5 => 5 | 9 => 9 | n => n, fun | 17 => 0 | n => n⟩
theorem Ybaf.laysM284 : Go.Proofs.LaysM.n284 Ybaf.prog Ybaf.laysM284_ren := {
  mixed := by kernel_rfl
  f129 := Ybaf.func63.trans (congrArg some (by kernel_rfl))
  f284 := Ybaf.func58.trans (congrArg some (by kernel_rfl))
  f317 := Ybaf.func62.trans (congrArg some (by kernel_rfl))
  f318 := Ybaf.func64.trans (congrArg some (by kernel_rfl))
  t0 := Ybaf.underlying0
  a0 := Ybaf.isAgg0
  z0 := Ybaf.sizeOf0
  v0 := Ybaf.zeroValue0
  t3 := Ybaf.underlying3
  a3 := Ybaf.isAgg3
  z3 := Ybaf.sizeOf3
  v3 := Ybaf.zeroValue3
  t4 := Ybaf.underlying4
  a4 := Ybaf.isAgg4
  z4 := Ybaf.sizeOf4
  v4 := Ybaf.zeroValue4
  t5 := Ybaf.underlying5
  a5 := Ybaf.isAgg5
  z5 := Ybaf.sizeOf5
  v5 := Ybaf.zeroValue5
  t9 := Ybaf.underlying9
  a9 := Ybaf.isAgg9
  z9 := Ybaf.sizeOf9
  v9 := Ybaf.zeroValue9
  t46 := Ybaf.underlying48
  a46 := Ybaf.isAgg48
  z46 := Ybaf.sizeOf48
  v46 := Ybaf.zeroValue48
  t53 := Ybaf.underlying86
  a53 := Ybaf.isAgg86
  z53 := Ybaf.sizeOf86
  v53 := Ybaf.zeroValue86
  t212 := Ybaf.underlying128
  a212 := Ybaf.isAgg128
  z212 := Ybaf.sizeOf128
  v212 := Ybaf.zeroValue128
  g17 := by kernel_rfl
  i0 := by kernel_rfl
  i3 := by kernel_rfl
  i4 := by kernel_rfl
  i5 := by kernel_rfl
  i9 := by kernel_rfl
  i46 := by kernel_rfl
  i53 := by kernel_rfl
  i212 := by kernel_rfl
  m17 := by kernel_rfl }
open Go.Lib in
theorem Ybaf.internal_strconv_numDigits (u : Nat) (h1 : 1 ≤ u) (h2 : u < 18446744073709551616) (w : World) (htab : Lib.TabIs Ybaf.prog w Ybaf.tabN .u64 Lib.pow10Tab) :
    Calls Ybaf.prog 58 #[.int .u64 u] w fun e w' => e = .returned (.int .i64 (Lib.nDigits u)) ∧ w' = w := Any.internal_strconv_numDigits Ybaf.laysM284 u h1 h2 w htab
def Ybaf.lays285_ren : Go.Shelf.Ren := ⟨fun | 285 => 59 | n => n, fun | 37 => 22 | 53 => 86 | 3 => 3 | 4 => 4 | 51 => 129 | 9 => 9 | 5 => 5 | 0 => 0 | n => n, fun | n => n⟩
theorem Ybaf.lays285 : Go.Proofs.Lays.n285 Ybaf.prog Ybaf.lays285_ren := {
  mixed := by kernel_rfl
  f285 := Ybaf.func59.trans (congrArg some (by kernel_rfl))
  t0 := Ybaf.underlying0
  a0 := Ybaf.isAgg0
  z0 := Ybaf.sizeOf0
  v0 := Ybaf.zeroValue0
  t3 := Ybaf.underlying3
  a3 := Ybaf.isAgg3
  z3 := Ybaf.sizeOf3
  v3 := Ybaf.zeroValue3
  t4 := Ybaf.underlying4
  a4 := Ybaf.isAgg4
  z4 := Ybaf.sizeOf4
  v4 := Ybaf.zeroValue4
  t5 := Ybaf.underlying5
  a5 := Ybaf.isAgg5
  z5 := Ybaf.sizeOf5
  v5 := Ybaf.zeroValue5
  t9 := Ybaf.underlying9
  a9 := Ybaf.isAgg9
  z9 := Ybaf.sizeOf9
  v9 := Ybaf.zeroValue9
  t37 := Ybaf.underlying22
  a37 := Ybaf.isAgg22
  z37 := Ybaf.sizeOf22
  v37 := Ybaf.zeroValue22
  t51 := Ybaf.underlying129
  a51 := Ybaf.isAgg129
  z51 := Ybaf.sizeOf129
  v51 := Ybaf.zeroValue129
  t53 := Ybaf.underlying86
  a53 := Ybaf.isAgg86
  z53 := Ybaf.sizeOf86
  v53 := Ybaf.zeroValue86 }
open Go.RowKit Go.Sort Go.Lib in
theorem Ybaf.internal_strconv_formatBase10 (blk off cap : Nat) (u : Nat) (d : Array UInt8) (w : World) (hH : Holds (fun (b : UInt8) => Value.int .u8 (b.toNat : Int)) w blk off d) (hu : u < 10 ^ d.size) (hu64 : u < 18446744073709551616) (hsz : d.size < 4611686018427387904) :
    Calls Ybaf.prog 59 #[.slice (some ⟨blk, off, none⟩) d.size cap, .int .u64 u] w fun e w' =>
      e = .returned (.tuple #[]) ∧ ∃ (n v' : Nat) (dk : Array UInt8), w' = (putRow (fun (b : UInt8) => Value.int .u8 (b.toNat : Int)) w blk off dk).drewN n ∧ FmtInv d.size u 0 v' dk := Any.internal_strconv_formatBase10 Ybaf.lays285 blk off cap u d w hH hu hu64 hsz
def Ybaf.laysnb115_ren : Go.Shelf.Ren := ⟨fun | 115 => 13 | n => n, fun | 37 => 22 | 4 => 4 | 9 => 9 | 5 => 5 | n => n, fun | n => n⟩
theorem Ybaf.laysnb115 : Go.Proofs.Lays.nb115 Ybaf.prog Ybaf.laysnb115_ren := {
  mixed := by kernel_rfl
  f115 := Ybaf.func13.trans (congrArg some (by kernel_rfl))
  t4 := Ybaf.underlying4
  a4 := Ybaf.isAgg4
  z4 := Ybaf.sizeOf4
  v4 := Ybaf.zeroValue4
  t9 := Ybaf.underlying9
  a9 := Ybaf.isAgg9
  z9 := Ybaf.sizeOf9
  v9 := Ybaf.zeroValue9
  t37 := Ybaf.underlying22
  a37 := Ybaf.isAgg22
  z37 := Ybaf.sizeOf22
  v37 := Ybaf.zeroValue22
  t5 := Ybaf.underlying5
  a5 := Ybaf.isAgg5
  z5 := Ybaf.sizeOf5
  v5 := Ybaf.zeroValue5 }
theorem Ybaf.bytes_Equal_all (p1 p2 : Option Addr) (n c m d : Nat) (xs ys : List Int) (w : World) (hx : xs.length = n) (hy : ys.length = m) (h1 : Lib.BytesIn w p1 n xs) (h2 : Lib.BytesIn w p2 m ys) :
    Calls Ybaf.prog 13 #[.slice p1 n c, .slice p2 m d] w fun e w' => e = .returned (.bool (Lib.bytesOf xs == Lib.bytesOf ys)) ∧ w' = w := Any.bytes_Equal_all Ybaf.laysnb115 p1 p2 n c m d xs ys w hx hy h1 h2
end Go.Proofs
