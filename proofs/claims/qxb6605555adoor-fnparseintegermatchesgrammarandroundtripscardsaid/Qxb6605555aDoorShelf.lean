/- The shelf's contracts on internal/strconv at this dump, laid by the kit's lay-shelf.mjs and written out by lay-plain.mjs; the name of the table is taken off the row. -/
import Derived.Shelf.Strconv.Itoa0
import Derived.Shelf.Strconv.Itoa1
import Derived.Shelf.LaysM
import Derived.Shelf.Strconv.Itoa2
import Derived.Shelf.Strconv.AppendUint10
import Derived.Shelf.Strconv.AppendInt10
import Derived.Test.Qxb6605555aDoorRows
namespace Go.Proofs
open Go.Shelf
/-- The table of the powers of ten, by the name that the given row bears. -/
def Tryd.powName : String := Qxb6605555aDoor.Rows.fnAppendTextWritesDecimalOfLimbsRow.named.headD default
def Tryd.lays283_ren : Go.Shelf.Ren := ⟨fun | 283 => 25 | n => n, fun | 3 => 3 | 9 => 9 | 4 => 4 | n => n, fun | n => n⟩
theorem Tryd.lays283 : Go.Proofs.Lays.n283 Tryd.prog Tryd.lays283_ren := {
  mixed := by kernel_rfl
  f283 := Tryd.func25.trans (congrArg some (by kernel_rfl))
  t3 := Tryd.underlying3
  a3 := Tryd.isAgg3
  z3 := Tryd.sizeOf3
  v3 := Tryd.zeroValue3
  t4 := Tryd.underlying4
  a4 := Tryd.isAgg4
  z4 := Tryd.sizeOf4
  v4 := Tryd.zeroValue4
  t9 := Tryd.underlying9
  a9 := Tryd.isAgg9
  z9 := Tryd.sizeOf9
  v9 := Tryd.zeroValue9 }
open Go.Lib in
theorem Tryd.internal_strconv_small (i : Nat) (h : i < 100) (w : World) :
    Calls Tryd.prog 25 #[.int .i64 i] w fun e w' => e = .returned (.string ⟨(Lib.decDigits i).toArray⟩) ∧ w' = w := Any.internal_strconv_small Tryd.lays283 i h w
def Tryd.laysM284_ren : Go.Shelf.Ren := ⟨fun | 284 => 26 | 129 => 30 | 317 => 29 | 318 => 31 | n => n, fun | 53 => 40 | 3 => 3 | 212 => 51 | 0 => 0 | 4 => 4 | 46 => 55 | 5 => 5 | 9 => 9 | n => n, fun | 17 => 0 | n => n⟩
theorem Tryd.laysM284 : Go.Proofs.LaysM.n284 Tryd.prog Tryd.laysM284_ren := {
  mixed := by kernel_rfl
  f129 := Tryd.func30.trans (congrArg some (by kernel_rfl))
  f284 := Tryd.func26.trans (congrArg some (by kernel_rfl))
  f317 := Tryd.func29.trans (congrArg some (by kernel_rfl))
  f318 := Tryd.func31.trans (congrArg some (by kernel_rfl))
  t0 := Tryd.underlying0
  a0 := Tryd.isAgg0
  z0 := Tryd.sizeOf0
  v0 := Tryd.zeroValue0
  t3 := Tryd.underlying3
  a3 := Tryd.isAgg3
  z3 := Tryd.sizeOf3
  v3 := Tryd.zeroValue3
  t4 := Tryd.underlying4
  a4 := Tryd.isAgg4
  z4 := Tryd.sizeOf4
  v4 := Tryd.zeroValue4
  t5 := Tryd.underlying5
  a5 := Tryd.isAgg5
  z5 := Tryd.sizeOf5
  v5 := Tryd.zeroValue5
  t9 := Tryd.underlying9
  a9 := Tryd.isAgg9
  z9 := Tryd.sizeOf9
  v9 := Tryd.zeroValue9
  t46 := Tryd.underlying55
  a46 := Tryd.isAgg55
  z46 := Tryd.sizeOf55
  v46 := Tryd.zeroValue55
  t53 := Tryd.underlying40
  a53 := Tryd.isAgg40
  z53 := Tryd.sizeOf40
  v53 := Tryd.zeroValue40
  t212 := Tryd.underlying51
  a212 := Tryd.isAgg51
  z212 := Tryd.sizeOf51
  v212 := Tryd.zeroValue51
  g17 := by kernel_rfl
  i0 := by kernel_rfl
  i3 := by kernel_rfl
  i4 := by kernel_rfl
  i5 := by kernel_rfl
  i9 := by kernel_rfl
  i46 := by kernel_rfl
  i53 := by kernel_rfl
  i212 := by kernel_rfl
  m17 := by kernel_rfl }
open Go.Lib in
theorem Tryd.internal_strconv_numDigits (u : Nat) (h1 : 1 ≤ u) (h2 : u < 18446744073709551616) (w : World) (htab : Lib.TabIs Tryd.prog w Tryd.powName .u64 Lib.pow10Tab) :
    Calls Tryd.prog 26 #[.int .u64 u] w fun e w' => e = .returned (.int .i64 (Lib.nDigits u)) ∧ w' = w := Any.internal_strconv_numDigits Tryd.laysM284 u h1 h2 w htab
def Tryd.lays285_ren : Go.Shelf.Ren := ⟨fun | 285 => 27 | n => n, fun | 37 => 22 | 53 => 40 | 3 => 3 | 4 => 4 | 51 => 52 | 9 => 9 | 5 => 5 | 0 => 0 | n => n, fun | n => n⟩
theorem Tryd.lays285 : Go.Proofs.Lays.n285 Tryd.prog Tryd.lays285_ren := {
  mixed := by kernel_rfl
  f285 := Tryd.func27.trans (congrArg some (by kernel_rfl))
  t0 := Tryd.underlying0
  a0 := Tryd.isAgg0
  z0 := Tryd.sizeOf0
  v0 := Tryd.zeroValue0
  t3 := Tryd.underlying3
  a3 := Tryd.isAgg3
  z3 := Tryd.sizeOf3
  v3 := Tryd.zeroValue3
  t4 := Tryd.underlying4
  a4 := Tryd.isAgg4
  z4 := Tryd.sizeOf4
  v4 := Tryd.zeroValue4
  t5 := Tryd.underlying5
  a5 := Tryd.isAgg5
  z5 := Tryd.sizeOf5
  v5 := Tryd.zeroValue5
  t9 := Tryd.underlying9
  a9 := Tryd.isAgg9
  z9 := Tryd.sizeOf9
  v9 := Tryd.zeroValue9
  t37 := Tryd.underlying22
  a37 := Tryd.isAgg22
  z37 := Tryd.sizeOf22
  v37 := Tryd.zeroValue22
  t51 := Tryd.underlying52
  a51 := Tryd.isAgg52
  z51 := Tryd.sizeOf52
  v51 := Tryd.zeroValue52
  t53 := Tryd.underlying40
  a53 := Tryd.isAgg40
  z53 := Tryd.sizeOf40
  v53 := Tryd.zeroValue40 }
open Go.RowKit Go.Sort Go.Lib in
theorem Tryd.internal_strconv_formatBase10 (blk off cap : Nat) (u : Nat) (d : Array UInt8) (w : World) (hH : Holds (fun (b : UInt8) => Value.int .u8 (b.toNat : Int)) w blk off d) (hu : u < 10 ^ d.size) (hu64 : u < 18446744073709551616) (hsz : d.size < 4611686018427387904) :
    Calls Tryd.prog 27 #[.slice (some ⟨blk, off, none⟩) d.size cap, .int .u64 u] w fun e w' =>
      e = .returned (.tuple #[]) ∧ ∃ (n v' : Nat) (dk : Array UInt8), w' = (putRow (fun (b : UInt8) => Value.int .u8 (b.toNat : Int)) w blk off dk).drewN n ∧ FmtInv d.size u 0 v' dk := Any.internal_strconv_formatBase10 Tryd.lays285 blk off cap u d w hH hu hu64 hsz
def Tryd.laysM288_ren : Go.Shelf.Ren := ⟨fun | 288 => 24 | 283 => 25 | 284 => 26 | 285 => 27 | 286 => 28 | 129 => 30 | 317 => 29 | 318 => 31 | 319 => 32 | 320 => 33 | 337 => 34 | 338 => 35 | n => n, fun | 37 => 22 | 53 => 40 | 3 => 3 | 4 => 4 | 9 => 9 | 171 => 45 | 0 => 0 | 173 => 48 | 212 => 51 | 51 => 52 | 5 => 5 | 20 => 20 | 213 => 53 | 46 => 55 | 232 => 58 | 233 => 59 | n => n, fun | 17 => 0 | 18 => 1 | 19 => 2 | n => n⟩
theorem Tryd.laysM288 : Go.Proofs.LaysM.n288 Tryd.prog Tryd.laysM288_ren := {
  mixed := by kernel_rfl
  f129 := Tryd.func30.trans (congrArg some (by kernel_rfl))
  f283 := Tryd.func25.trans (congrArg some (by kernel_rfl))
  f284 := Tryd.func26.trans (congrArg some (by kernel_rfl))
  f285 := Tryd.func27.trans (congrArg some (by kernel_rfl))
  f286 := Tryd.func28.trans (congrArg some (by kernel_rfl))
  f288 := Tryd.func24.trans (congrArg some (by kernel_rfl))
  f317 := Tryd.func29.trans (congrArg some (by kernel_rfl))
  f318 := Tryd.func31.trans (congrArg some (by kernel_rfl))
  f319 := Tryd.func32.trans (congrArg some (by kernel_rfl))
  f320 := Tryd.func33.trans (congrArg some (by kernel_rfl))
  f337 := Tryd.func34.trans (congrArg some (by kernel_rfl))
  f338 := Tryd.func35.trans (congrArg some (by kernel_rfl))
  t0 := Tryd.underlying0
  a0 := Tryd.isAgg0
  z0 := Tryd.sizeOf0
  v0 := Tryd.zeroValue0
  t3 := Tryd.underlying3
  a3 := Tryd.isAgg3
  z3 := Tryd.sizeOf3
  v3 := Tryd.zeroValue3
  t4 := Tryd.underlying4
  a4 := Tryd.isAgg4
  z4 := Tryd.sizeOf4
  v4 := Tryd.zeroValue4
  t5 := Tryd.underlying5
  a5 := Tryd.isAgg5
  z5 := Tryd.sizeOf5
  v5 := Tryd.zeroValue5
  t9 := Tryd.underlying9
  a9 := Tryd.isAgg9
  z9 := Tryd.sizeOf9
  v9 := Tryd.zeroValue9
  t20 := Tryd.underlying20
  a20 := Tryd.isAgg20
  z20 := Tryd.sizeOf20
  v20 := Tryd.zeroValue20
  t37 := Tryd.underlying22
  a37 := Tryd.isAgg22
  z37 := Tryd.sizeOf22
  v37 := Tryd.zeroValue22
  t46 := Tryd.underlying55
  a46 := Tryd.isAgg55
  z46 := Tryd.sizeOf55
  v46 := Tryd.zeroValue55
  t51 := Tryd.underlying52
  a51 := Tryd.isAgg52
  z51 := Tryd.sizeOf52
  v51 := Tryd.zeroValue52
  t53 := Tryd.underlying40
  a53 := Tryd.isAgg40
  z53 := Tryd.sizeOf40
  v53 := Tryd.zeroValue40
  t171 := Tryd.underlying45
  a171 := Tryd.isAgg45
  z171 := Tryd.sizeOf45
  v171 := Tryd.zeroValue45
  t173 := Tryd.underlying48
  a173 := Tryd.isAgg48
  z173 := Tryd.sizeOf48
  v173 := Tryd.zeroValue48
  t212 := Tryd.underlying51
  a212 := Tryd.isAgg51
  z212 := Tryd.sizeOf51
  v212 := Tryd.zeroValue51
  t213 := Tryd.underlying53
  a213 := Tryd.isAgg53
  z213 := Tryd.sizeOf53
  t232 := Tryd.underlying58
  a232 := Tryd.isAgg58
  z232 := Tryd.sizeOf58
  v232 := Tryd.zeroValue58
  t233 := Tryd.underlying59
  a233 := Tryd.isAgg59
  z233 := Tryd.sizeOf59
  v233 := Tryd.zeroValue59
  g17 := by kernel_rfl
  g18 := by kernel_rfl
  g19 := by kernel_rfl
  i0 := by kernel_rfl
  i3 := by kernel_rfl
  i4 := by kernel_rfl
  i5 := by kernel_rfl
  i9 := by kernel_rfl
  i20 := by kernel_rfl
  i37 := by kernel_rfl
  i46 := by kernel_rfl
  i51 := by kernel_rfl
  i53 := by kernel_rfl
  i171 := by kernel_rfl
  i173 := by kernel_rfl
  i212 := by kernel_rfl
  i232 := by kernel_rfl
  i233 := by kernel_rfl
  m17 := by kernel_rfl
  m18 := by kernel_rfl
  m19 := by kernel_rfl }
open Go.RowKit Go.Sort Go.Lib in
theorem Tryd.internal_strconv_AppendUint_10 (B n u : Nat) (hu64 : u < 18446744073709551616) (sv : Value) (xs : List Value) (w : World) (hown : w.ownsRow B 5 1 sv n xs) (hBw : B ≤ w.heap.size) (hlim : n + 20 ≤ 140737488355328) (htab : Lib.TabIs Tryd.prog w Tryd.powName .u64 Lib.pow10Tab) :
    Calls Tryd.prog 24 #[sv, .int .u64 u, .int .i64 10] w fun e w' => ∃ v', e = .returned v' ∧ w'.ownsRow B 5 1 v' (n + (Lib.decDigits u).length) (xs ++ Lib.byteCells (Lib.decDigits u)) ∧ Below B w w' ∧ Lib.OthersKept 5 none w w' := Any.internal_strconv_AppendUint_10 Tryd.laysM288 B n u hu64 sv xs w hown hBw hlim htab
end Go.Proofs
