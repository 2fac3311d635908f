import Derived.Shelf.Strconv.Itoa0
import Derived.Shelf.Strconv.Itoa1
import Derived.Shelf.LaysM
import Derived.Shelf.Strconv.Itoa2
import Derived.Shelf.Strconv.AppendUint10
import Derived.Shelf.Strconv.AppendInt10
import Derived.Shelf.Strconv.AppendIntPublic10
import Derived.Test.Qxb6602662aDoorRows
/-
  The shelf's contracts at this dump, in plain words (written by the kit's lay-shelf and lay-plain tools for this program, pared down to what is used). The table's name is taken off the given row.
-/
namespace Go.Proofs.Qxb6602662aDoor
abbrev tabName : String := Rows.fnRateAppendMatchesDecimalModelRow.named.headD ""
end Go.Proofs.Qxb6602662aDoor
namespace Go.Proofs
open Go.Shelf
def Tryd.lays283_ren : Go.Shelf.Ren := ⟨fun | 283 => 17 | n => n, fun | 3 => 3 | 9 => 9 | 4 => 4 | n => n, fun | n => n⟩
theorem Tryd.lays283 : Go.Proofs.Lays.n283 Tryd.prog Tryd.lays283_ren := {
  mixed := by kernel_rfl
  f283 := Tryd.func17.trans (congrArg some (by kernel_rfl))
  t3 := Tryd.underlying3
  a3 := Tryd.isAgg3
  z3 := Tryd.sizeOf3
  v3 := Tryd.zeroValue3
  t4 := Tryd.underlying4
  a4 := Tryd.isAgg4
  z4 := Tryd.sizeOf4
  v4 := Tryd.zeroValue4
  t9 := Tryd.underlying9
  a9 := Tryd.isAgg9
  z9 := Tryd.sizeOf9
  v9 := Tryd.zeroValue9 }
open Go.Lib in
theorem Tryd.internal_strconv_small (i : Nat) (h : i < 100) (w : World) :
    Calls Tryd.prog 17 #[.int .i64 i] w fun e w' => e = .returned (.string ⟨(Lib.decDigits i).toArray⟩) ∧ w' = w := Any.internal_strconv_small Tryd.lays283 i h w
def Tryd.laysM284_ren : Go.Shelf.Ren := ⟨fun | 284 => 18 | 129 => 22 | 317 => 21 | 318 => 23 | n => n, fun | 53 => 32 | 3 => 3 | 212 => 42 | 0 => 0 | 4 => 4 | 46 => 46 | 5 => 5 | 9 => 9 | n => n, fun | 17 => 0 | n => n⟩
theorem Tryd.laysM284 : Go.Proofs.LaysM.n284 Tryd.prog Tryd.laysM284_ren := {
  mixed := by kernel_rfl
  f129 := Tryd.func22.trans (congrArg some (by kernel_rfl))
  f284 := Tryd.func18.trans (congrArg some (by kernel_rfl))
  f317 := Tryd.func21.trans (congrArg some (by kernel_rfl))
  f318 := Tryd.func23.trans (congrArg some (by kernel_rfl))
  t0 := Tryd.underlying0
  a0 := Tryd.isAgg0
  z0 := Tryd.sizeOf0
  v0 := Tryd.zeroValue0
  t3 := Tryd.underlying3
  a3 := Tryd.isAgg3
  z3 := Tryd.sizeOf3
  v3 := Tryd.zeroValue3
  t4 := Tryd.underlying4
  a4 := Tryd.isAgg4
  z4 := Tryd.sizeOf4
  v4 := Tryd.zeroValue4
  t5 := Tryd.underlying5
  a5 := Tryd.isAgg5
  z5 := Tryd.sizeOf5
  v5 := Tryd.zeroValue5
  t9 := Tryd.underlying9
  a9 := Tryd.isAgg9
  z9 := Tryd.sizeOf9
  v9 := Tryd.zeroValue9
  t46 := Tryd.underlying46
  a46 := Tryd.isAgg46
  z46 := Tryd.sizeOf46
  v46 := Tryd.zeroValue46
  t53 := Tryd.underlying32
  a53 := Tryd.isAgg32
  z53 := Tryd.sizeOf32
  v53 := Tryd.zeroValue32
  t212 := Tryd.underlying42
  a212 := Tryd.isAgg42
  z212 := Tryd.sizeOf42
  v212 := Tryd.zeroValue42
  g17 := by kernel_rfl
  i0 := by kernel_rfl
  i3 := by kernel_rfl
  i4 := by kernel_rfl
  i5 := by kernel_rfl
  i9 := by kernel_rfl
  i46 := by kernel_rfl
  i53 := by kernel_rfl
  i212 := by kernel_rfl
  m17 := by kernel_rfl }
open Go.Lib in
theorem Tryd.internal_strconv_numDigits (u : Nat) (h1 : 1 ≤ u) (h2 : u < 18446744073709551616) (w : World) (htab : Lib.TabIs Tryd.prog w Qxb6602662aDoor.tabName .u64 Lib.pow10Tab) :
    Calls Tryd.prog 18 #[.int .u64 u] w fun e w' => e = .returned (.int .i64 (Lib.nDigits u)) ∧ w' = w := Any.internal_strconv_numDigits Tryd.laysM284 u h1 h2 w htab
def Tryd.lays285_ren : Go.Shelf.Ren := ⟨fun | 285 => 19 | n => n, fun | 37 => 22 | 53 => 32 | 3 => 3 | 4 => 4 | 51 => 43 | 9 => 9 | 5 => 5 | 0 => 0 | n => n, fun | n => n⟩
theorem Tryd.lays285 : Go.Proofs.Lays.n285 Tryd.prog Tryd.lays285_ren := {
  mixed := by kernel_rfl
  f285 := Tryd.func19.trans (congrArg some (by kernel_rfl))
  t0 := Tryd.underlying0
  a0 := Tryd.isAgg0
  z0 := Tryd.sizeOf0
  v0 := Tryd.zeroValue0
  t3 := Tryd.underlying3
  a3 := Tryd.isAgg3
  z3 := Tryd.sizeOf3
  v3 := Tryd.zeroValue3
  t4 := Tryd.underlying4
  a4 := Tryd.isAgg4
  z4 := Tryd.sizeOf4
  v4 := Tryd.zeroValue4
  t5 := Tryd.underlying5
  a5 := Tryd.isAgg5
  z5 := Tryd.sizeOf5
  v5 := Tryd.zeroValue5
  t9 := Tryd.underlying9
  a9 := Tryd.isAgg9
  z9 := Tryd.sizeOf9
  v9 := Tryd.zeroValue9
  t37 := Tryd.underlying22
  a37 := Tryd.isAgg22
  z37 := Tryd.sizeOf22
  v37 := Tryd.zeroValue22
  t51 := Tryd.underlying43
  a51 := Tryd.isAgg43
  z51 := Tryd.sizeOf43
  v51 := Tryd.zeroValue43
  t53 := Tryd.underlying32
  a53 := Tryd.isAgg32
  z53 := Tryd.sizeOf32
  v53 := Tryd.zeroValue32 }
open Go.RowKit Go.Sort Go.Lib in
theorem Tryd.internal_strconv_formatBase10 (blk off cap : Nat) (u : Nat) (d : Array UInt8) (w : World) (hH : Holds (fun (b : UInt8) => Value.int .u8 (b.toNat : Int)) w blk off d) (hu : u < 10 ^ d.size) (hu64 : u < 18446744073709551616) (hsz : d.size < 4611686018427387904) :
    Calls Tryd.prog 19 #[.slice (some ⟨blk, off, none⟩) d.size cap, .int .u64 u] w fun e w' =>
      e = .returned (.tuple #[]) ∧ ∃ (n v' : Nat) (dk : Array UInt8), w' = (putRow (fun (b : UInt8) => Value.int .u8 (b.toNat : Int)) w blk off dk).drewN n ∧ FmtInv d.size u 0 v' dk := Any.internal_strconv_formatBase10 Tryd.lays285 blk off cap u d w hH hu hu64 hsz
def Tryd.laysM176_ren : Go.Shelf.Ren := ⟨fun | 176 => 11 | 249 => 15 | 288 => 16 | 283 => 17 | 284 => 18 | 285 => 19 | 286 => 20 | 129 => 22 | 317 => 21 | 318 => 23 | 319 => 24 | 320 => 25 | 337 => 26 | 338 => 27 | n => n, fun | 37 => 22 | 2 => 2 | 3 => 3 | 53 => 32 | 4 => 4 | 9 => 9 | 171 => 33 | 0 => 0 | 173 => 38 | 212 => 42 | 51 => 43 | 5 => 5 | 20 => 20 | 213 => 44 | 46 => 46 | 232 => 49 | 233 => 50 | n => n, fun | 17 => 0 | 18 => 1 | 19 => 2 | n => n⟩
theorem Tryd.laysM176 : Go.Proofs.LaysM.n176 Tryd.prog Tryd.laysM176_ren := {
  mixed := by kernel_rfl
  f129 := Tryd.func22.trans (congrArg some (by kernel_rfl))
  f176 := Tryd.func11.trans (congrArg some (by kernel_rfl))
  f249 := Tryd.func15.trans (congrArg some (by kernel_rfl))
  f283 := Tryd.func17.trans (congrArg some (by kernel_rfl))
  f284 := Tryd.func18.trans (congrArg some (by kernel_rfl))
  f285 := Tryd.func19.trans (congrArg some (by kernel_rfl))
  f286 := Tryd.func20.trans (congrArg some (by kernel_rfl))
  f288 := Tryd.func16.trans (congrArg some (by kernel_rfl))
  f317 := Tryd.func21.trans (congrArg some (by kernel_rfl))
  f318 := Tryd.func23.trans (congrArg some (by kernel_rfl))
  f319 := Tryd.func24.trans (congrArg some (by kernel_rfl))
  f320 := Tryd.func25.trans (congrArg some (by kernel_rfl))
  f337 := Tryd.func26.trans (congrArg some (by kernel_rfl))
  f338 := Tryd.func27.trans (congrArg some (by kernel_rfl))
  t0 := Tryd.underlying0
  a0 := Tryd.isAgg0
  z0 := Tryd.sizeOf0
  v0 := Tryd.zeroValue0
  t2 := Tryd.underlying2
  a2 := Tryd.isAgg2
  z2 := Tryd.sizeOf2
  v2 := Tryd.zeroValue2
  t3 := Tryd.underlying3
  a3 := Tryd.isAgg3
  z3 := Tryd.sizeOf3
  v3 := Tryd.zeroValue3
  t4 := Tryd.underlying4
  a4 := Tryd.isAgg4
  z4 := Tryd.sizeOf4
  v4 := Tryd.zeroValue4
  t5 := Tryd.underlying5
  a5 := Tryd.isAgg5
  z5 := Tryd.sizeOf5
  v5 := Tryd.zeroValue5
  t9 := Tryd.underlying9
  a9 := Tryd.isAgg9
  z9 := Tryd.sizeOf9
  v9 := Tryd.zeroValue9
  t20 := Tryd.underlying20
  a20 := Tryd.isAgg20
  z20 := Tryd.sizeOf20
  v20 := Tryd.zeroValue20
  t37 := Tryd.underlying22
  a37 := Tryd.isAgg22
  z37 := Tryd.sizeOf22
  v37 := Tryd.zeroValue22
  t46 := Tryd.underlying46
  a46 := Tryd.isAgg46
  z46 := Tryd.sizeOf46
  v46 := Tryd.zeroValue46
  t51 := Tryd.underlying43
  a51 := Tryd.isAgg43
  z51 := Tryd.sizeOf43
  v51 := Tryd.zeroValue43
  t53 := Tryd.underlying32
  a53 := Tryd.isAgg32
  z53 := Tryd.sizeOf32
  v53 := Tryd.zeroValue32
  t171 := Tryd.underlying33
  a171 := Tryd.isAgg33
  z171 := Tryd.sizeOf33
  v171 := Tryd.zeroValue33
  t173 := Tryd.underlying38
  a173 := Tryd.isAgg38
  z173 := Tryd.sizeOf38
  v173 := Tryd.zeroValue38
  t212 := Tryd.underlying42
  a212 := Tryd.isAgg42
  z212 := Tryd.sizeOf42
  v212 := Tryd.zeroValue42
  t213 := Tryd.underlying44
  a213 := Tryd.isAgg44
  z213 := Tryd.sizeOf44
  t232 := Tryd.underlying49
  a232 := Tryd.isAgg49
  z232 := Tryd.sizeOf49
  v232 := Tryd.zeroValue49
  t233 := Tryd.underlying50
  a233 := Tryd.isAgg50
  z233 := Tryd.sizeOf50
  v233 := Tryd.zeroValue50
  g17 := by kernel_rfl
  g18 := by kernel_rfl
  g19 := by kernel_rfl
  i0 := by kernel_rfl
  i2 := by kernel_rfl
  i3 := by kernel_rfl
  i4 := by kernel_rfl
  i5 := by kernel_rfl
  i9 := by kernel_rfl
  i20 := by kernel_rfl
  i37 := by kernel_rfl
  i46 := by kernel_rfl
  i51 := by kernel_rfl
  i53 := by kernel_rfl
  i171 := by kernel_rfl
  i173 := by kernel_rfl
  i212 := by kernel_rfl
  i232 := by kernel_rfl
  i233 := by kernel_rfl
  m17 := by kernel_rfl
  m18 := by kernel_rfl
  m19 := by kernel_rfl }
open Go.RowKit Go.Sort Go.Lib in
theorem Tryd.strconv_AppendInt_10 (B n : Nat) (i : Int) (h0 : -9223372036854775808 ≤ i) (h1 : i ≤ 9223372036854775807) (sv : Value) (xs : List Value) (w : World) (hown : w.ownsRow B 5 1 sv n xs) (hBw : B ≤ w.heap.size) (hlim : n + 21 ≤ 140737488355328) (htab : Lib.TabBelow Tryd.prog B w Qxb6602662aDoor.tabName .u64 Lib.pow10Tab) :
    Calls Tryd.prog 11 #[sv, .int .i64 i, .int .i64 10] w fun e w' => ∃ v', e = .returned v' ∧ w'.ownsRow B 5 1 v' (n + (Lib.itoa i).length) (xs ++ Lib.byteCells (Lib.itoa i)) ∧ Below B w w' ∧ Lib.OthersKept 5 none w w' := Any.strconv_AppendInt_10 Tryd.laysM176 B n i h0 h1 sv xs w hown hBw hlim htab

end Go.Proofs
