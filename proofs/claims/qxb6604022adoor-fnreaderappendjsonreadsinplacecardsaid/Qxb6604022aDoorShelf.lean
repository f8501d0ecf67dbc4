/-
  DERIVED: THE SHELF's CONTRACTS AT THIS DUMP, IN PLAIN WORDS (tools/lay-plain.mjs out of 'TrydShelf.lean', which tools/lay-shelf.mjs wrote): THE SAME DECLARATIONS UNDER THE SAME NAMES: 'import', 'namespace', 'open', 'def', 'theorem' AND NOTHING ELSE: no command of the shelf's: FOR A HAND-IN. Each laying: the table of numbers ('.._ren') and one theorem, a field a fact of the dump's own or the kernel's comparison; each contract: ONE APPLICATION.
-/
import Derived.Shelf.Strconv.Itoa0
import Derived.Shelf.Strconv.Itoa1
import Derived.Shelf.LaysM
import Derived.Shelf.Strconv.Itoa2
import Derived.Shelf.Strconv.AppendUint10
import Derived.Shelf.Strconv.AppendInt10
import Derived.Shelf.Strconv.AppendIntPublic10
import Derived.Test.Qxb6604022aDoorRows
namespace Go.Proofs
open Go.Shelf
def Qxb6604022aDoor.powName : String := match Qxb6604022aDoor.Rows.fnReaderAppendJSONMatchesStackModelRow.laid with
  | [_, _, p] => p.1
  | _ => ""
def Tryd.lays129_ren : Go.Shelf.Ren := ⟨fun | 129 => 28 | n => n, fun | 53 => 32 | 3 => 3 | 4 => 4 | 46 => 31 | 5 => 5 | 9 => 9 | n => n, fun | n => n⟩
theorem Tryd.lays129 : Go.Proofs.Lays.n129 Tryd.prog Tryd.lays129_ren := {
  mixed := by kernel_rfl
  f129 := Tryd.func28.trans (congrArg some (by kernel_rfl))
  t3 := Tryd.underlying3
  a3 := Tryd.isAgg3
  z3 := Tryd.sizeOf3
  v3 := Tryd.zeroValue3
  t4 := Tryd.underlying4
  a4 := Tryd.isAgg4
  z4 := Tryd.sizeOf4
  v4 := Tryd.zeroValue4
  t5 := Tryd.underlying5
  a5 := Tryd.isAgg5
  z5 := Tryd.sizeOf5
  v5 := Tryd.zeroValue5
  t9 := Tryd.underlying9
  a9 := Tryd.isAgg9
  z9 := Tryd.sizeOf9
  v9 := Tryd.zeroValue9
  t46 := Tryd.underlying31
  a46 := Tryd.isAgg31
  z46 := Tryd.sizeOf31
  v46 := Tryd.zeroValue31
  t53 := Tryd.underlying32
  a53 := Tryd.isAgg32
  z53 := Tryd.sizeOf32
  v53 := Tryd.zeroValue32 }
theorem Tryd.bits_Len64 (x : Int) (w : World) (h0 : 0 ≤ x) (h1 : x ≤ 18446744073709551615) :
    Calls Tryd.prog 28 #[.int .u64 x] w fun e w' => e = .returned (.int .i64 (Lib.bitLen x.toNat)) ∧ w' = w := Any.bits_Len64 Tryd.lays129 x w h0 h1
def Tryd.lays317_ren : Go.Shelf.Ren := ⟨fun | 317 => 27 | n => n, fun | 3 => 3 | 46 => 31 | n => n, fun | n => n⟩
theorem Tryd.lays317 : Go.Proofs.Lays.n317 Tryd.prog Tryd.lays317_ren := {
  mixed := by kernel_rfl
  f317 := Tryd.func27.trans (congrArg some (by kernel_rfl))
  t3 := Tryd.underlying3
  a3 := Tryd.isAgg3
  z3 := Tryd.sizeOf3
  v3 := Tryd.zeroValue3
  t46 := Tryd.underlying31
  a46 := Tryd.isAgg31
  z46 := Tryd.sizeOf31
  v46 := Tryd.zeroValue31 }
open Go.Lib in
theorem Tryd.internal_strconv_log10Pow2 (x : Nat) (h : x ≤ 64) (w : World) :
    Calls Tryd.prog 27 #[.int .i64 x] w fun e w' => e = .returned (.int .i64 (Lib.l10 x)) ∧ w' = w := Any.internal_strconv_log10Pow2 Tryd.lays317 x h w
def Tryd.lays318_ren : Go.Shelf.Ren := ⟨fun | 318 => 29 | n => n, fun | 3 => 3 | 4 => 4 | n => n, fun | n => n⟩
theorem Tryd.lays318 : Go.Proofs.Lays.n318 Tryd.prog Tryd.lays318_ren := {
  mixed := by kernel_rfl
  f318 := Tryd.func29.trans (congrArg some (by kernel_rfl))
  t3 := Tryd.underlying3
  a3 := Tryd.isAgg3
  z3 := Tryd.sizeOf3
  v3 := Tryd.zeroValue3
  t4 := Tryd.underlying4
  a4 := Tryd.isAgg4
  z4 := Tryd.sizeOf4
  v4 := Tryd.zeroValue4 }
open Go.Lib in
theorem Tryd.internal_strconv_bool2_int (b : Bool) (w : World) :
    Calls Tryd.prog 29 #[.bool b] w fun e w' => e = .returned (.int .i64 (if b then 1 else 0)) ∧ w' = w := Any.internal_strconv_bool2_int Tryd.lays318 b w
def Tryd.lays283_ren : Go.Shelf.Ren := ⟨fun | 283 => 23 | n => n, fun | 3 => 3 | 9 => 9 | 4 => 4 | n => n, fun | n => n⟩
theorem Tryd.lays283 : Go.Proofs.Lays.n283 Tryd.prog Tryd.lays283_ren := {
  mixed := by kernel_rfl
  f283 := Tryd.func23.trans (congrArg some (by kernel_rfl))
  t3 := Tryd.underlying3
  a3 := Tryd.isAgg3
  z3 := Tryd.sizeOf3
  v3 := Tryd.zeroValue3
  t4 := Tryd.underlying4
  a4 := Tryd.isAgg4
  z4 := Tryd.sizeOf4
  v4 := Tryd.zeroValue4
  t9 := Tryd.underlying9
  a9 := Tryd.isAgg9
  z9 := Tryd.sizeOf9
  v9 := Tryd.zeroValue9 }
open Go.Lib in
theorem Tryd.internal_strconv_small (i : Nat) (h : i < 100) (w : World) :
    Calls Tryd.prog 23 #[.int .i64 i] w fun e w' => e = .returned (.string ⟨(Lib.decDigits i).toArray⟩) ∧ w' = w := Any.internal_strconv_small Tryd.lays283 i h w
def Tryd.laysM284_ren : Go.Shelf.Ren := ⟨fun | 284 => 24 | 129 => 28 | 317 => 27 | 318 => 29 | n => n, fun | 53 => 32 | 3 => 3 | 212 => 57 | 0 => 0 | 4 => 4 | 46 => 31 | 5 => 5 | 9 => 9 | n => n, fun | 17 => 0 | n => n⟩
theorem Tryd.laysM284 : Go.Proofs.LaysM.n284 Tryd.prog Tryd.laysM284_ren := {
  mixed := by kernel_rfl
  f129 := Tryd.func28.trans (congrArg some (by kernel_rfl))
  f284 := Tryd.func24.trans (congrArg some (by kernel_rfl))
  f317 := Tryd.func27.trans (congrArg some (by kernel_rfl))
  f318 := Tryd.func29.trans (congrArg some (by kernel_rfl))
  t0 := Tryd.underlying0
  a0 := Tryd.isAgg0
  z0 := Tryd.sizeOf0
  v0 := Tryd.zeroValue0
  t3 := Tryd.underlying3
  a3 := Tryd.isAgg3
  z3 := Tryd.sizeOf3
  v3 := Tryd.zeroValue3
  t4 := Tryd.underlying4
  a4 := Tryd.isAgg4
  z4 := Tryd.sizeOf4
  v4 := Tryd.zeroValue4
  t5 := Tryd.underlying5
  a5 := Tryd.isAgg5
  z5 := Tryd.sizeOf5
  v5 := Tryd.zeroValue5
  t9 := Tryd.underlying9
  a9 := Tryd.isAgg9
  z9 := Tryd.sizeOf9
  v9 := Tryd.zeroValue9
  t46 := Tryd.underlying31
  a46 := Tryd.isAgg31
  z46 := Tryd.sizeOf31
  v46 := Tryd.zeroValue31
  t53 := Tryd.underlying32
  a53 := Tryd.isAgg32
  z53 := Tryd.sizeOf32
  v53 := Tryd.zeroValue32
  t212 := Tryd.underlying57
  a212 := Tryd.isAgg57
  z212 := Tryd.sizeOf57
  v212 := Tryd.zeroValue57
  g17 := by kernel_rfl
  i0 := by kernel_rfl
  i3 := by kernel_rfl
  i4 := by kernel_rfl
  i5 := by kernel_rfl
  i9 := by kernel_rfl
  i46 := by kernel_rfl
  i53 := by kernel_rfl
  i212 := by kernel_rfl
  m17 := by kernel_rfl }
open Go.Lib in
theorem Tryd.internal_strconv_numDigits (u : Nat) (h1 : 1 ≤ u) (h2 : u < 18446744073709551616) (w : World) (htab : Lib.TabIs Tryd.prog w Qxb6604022aDoor.powName .u64 Lib.pow10Tab) :
    Calls Tryd.prog 24 #[.int .u64 u] w fun e w' => e = .returned (.int .i64 (Lib.nDigits u)) ∧ w' = w := Any.internal_strconv_numDigits Tryd.laysM284 u h1 h2 w htab
def Tryd.lays285_ren : Go.Shelf.Ren := ⟨fun | 285 => 25 | n => n, fun | 37 => 22 | 53 => 32 | 3 => 3 | 4 => 4 | 51 => 58 | 9 => 9 | 5 => 5 | 0 => 0 | n => n, fun | n => n⟩
theorem Tryd.lays285 : Go.Proofs.Lays.n285 Tryd.prog Tryd.lays285_ren := {
  mixed := by kernel_rfl
  f285 := Tryd.func25.trans (congrArg some (by kernel_rfl))
  t0 := Tryd.underlying0
  a0 := Tryd.isAgg0
  z0 := Tryd.sizeOf0
  v0 := Tryd.zeroValue0
  t3 := Tryd.underlying3
  a3 := Tryd.isAgg3
  z3 := Tryd.sizeOf3
  v3 := Tryd.zeroValue3
  t4 := Tryd.underlying4
  a4 := Tryd.isAgg4
  z4 := Tryd.sizeOf4
  v4 := Tryd.zeroValue4
  t5 := Tryd.underlying5
  a5 := Tryd.isAgg5
  z5 := Tryd.sizeOf5
  v5 := Tryd.zeroValue5
  t9 := Tryd.underlying9
  a9 := Tryd.isAgg9
  z9 := Tryd.sizeOf9
  v9 := Tryd.zeroValue9
  t37 := Tryd.underlying22
  a37 := Tryd.isAgg22
  z37 := Tryd.sizeOf22
  v37 := Tryd.zeroValue22
  t51 := Tryd.underlying58
  a51 := Tryd.isAgg58
  z51 := Tryd.sizeOf58
  v51 := Tryd.zeroValue58
  t53 := Tryd.underlying32
  a53 := Tryd.isAgg32
  z53 := Tryd.sizeOf32
  v53 := Tryd.zeroValue32 }
open Go.RowKit Go.Sort Go.Lib in
theorem Tryd.internal_strconv_formatBase10 (blk off cap : Nat) (u : Nat) (d : Array UInt8) (w : World) (hH : Holds (fun (b : UInt8) => Value.int .u8 (b.toNat : Int)) w blk off d) (hu : u < 10 ^ d.size) (hu64 : u < 18446744073709551616) (hsz : d.size < 4611686018427387904) :
    Calls Tryd.prog 25 #[.slice (some ⟨blk, off, none⟩) d.size cap, .int .u64 u] w fun e w' =>
      e = .returned (.tuple #[]) ∧ ∃ (n v' : Nat) (dk : Array UInt8), w' = (putRow (fun (b : UInt8) => Value.int .u8 (b.toNat : Int)) w blk off dk).drewN n ∧ FmtInv d.size u 0 v' dk := Any.internal_strconv_formatBase10 Tryd.lays285 blk off cap u d w hH hu hu64 hsz
def Tryd.laysM288_ren : Go.Shelf.Ren := ⟨fun | 288 => 20 | 283 => 23 | 284 => 24 | 285 => 25 | 286 => 26 | 129 => 28 | 317 => 27 | 318 => 29 | 319 => 30 | 320 => 31 | 337 => 32 | 338 => 33 | n => n, fun | 37 => 22 | 53 => 32 | 3 => 3 | 4 => 4 | 9 => 9 | 171 => 50 | 0 => 0 | 173 => 53 | 212 => 57 | 51 => 58 | 5 => 5 | 20 => 20 | 213 => 59 | 46 => 31 | 232 => 63 | 233 => 64 | n => n, fun | 17 => 0 | 18 => 1 | 19 => 2 | n => n⟩
theorem Tryd.laysM288 : Go.Proofs.LaysM.n288 Tryd.prog Tryd.laysM288_ren := {
  mixed := by kernel_rfl
  f129 := Tryd.func28.trans (congrArg some (by kernel_rfl))
  f283 := Tryd.func23.trans (congrArg some (by kernel_rfl))
  f284 := Tryd.func24.trans (congrArg some (by kernel_rfl))
  f285 := Tryd.func25.trans (congrArg some (by kernel_rfl))
  f286 := Tryd.func26.trans (congrArg some (by kernel_rfl))
  f288 := Tryd.func20.trans (congrArg some (by kernel_rfl))
  f317 := Tryd.func27.trans (congrArg some (by kernel_rfl))
  f318 := Tryd.func29.trans (congrArg some (by kernel_rfl))
  f319 := Tryd.func30.trans (congrArg some (by kernel_rfl))
  f320 := Tryd.func31.trans (congrArg some (by kernel_rfl))
  f337 := Tryd.func32.trans (congrArg some (by kernel_rfl))
  f338 := Tryd.func33.trans (congrArg some (by kernel_rfl))
  t0 := Tryd.underlying0
  a0 := Tryd.isAgg0
  z0 := Tryd.sizeOf0
  v0 := Tryd.zeroValue0
  t3 := Tryd.underlying3
  a3 := Tryd.isAgg3
  z3 := Tryd.sizeOf3
  v3 := Tryd.zeroValue3
  t4 := Tryd.underlying4
  a4 := Tryd.isAgg4
  z4 := Tryd.sizeOf4
  v4 := Tryd.zeroValue4
  t5 := Tryd.underlying5
  a5 := Tryd.isAgg5
  z5 := Tryd.sizeOf5
  v5 := Tryd.zeroValue5
  t9 := Tryd.underlying9
  a9 := Tryd.isAgg9
  z9 := Tryd.sizeOf9
  v9 := Tryd.zeroValue9
  t20 := Tryd.underlying20
  a20 := Tryd.isAgg20
  z20 := Tryd.sizeOf20
  v20 := Tryd.zeroValue20
  t37 := Tryd.underlying22
  a37 := Tryd.isAgg22
  z37 := Tryd.sizeOf22
  v37 := Tryd.zeroValue22
  t46 := Tryd.underlying31
  a46 := Tryd.isAgg31
  z46 := Tryd.sizeOf31
  v46 := Tryd.zeroValue31
  t51 := Tryd.underlying58
  a51 := Tryd.isAgg58
  z51 := Tryd.sizeOf58
  v51 := Tryd.zeroValue58
  t53 := Tryd.underlying32
  a53 := Tryd.isAgg32
  z53 := Tryd.sizeOf32
  v53 := Tryd.zeroValue32
  t171 := Tryd.underlying50
  a171 := Tryd.isAgg50
  z171 := Tryd.sizeOf50
  v171 := Tryd.zeroValue50
  t173 := Tryd.underlying53
  a173 := Tryd.isAgg53
  z173 := Tryd.sizeOf53
  v173 := Tryd.zeroValue53
  t212 := Tryd.underlying57
  a212 := Tryd.isAgg57
  z212 := Tryd.sizeOf57
  v212 := Tryd.zeroValue57
  t213 := Tryd.underlying59
  a213 := Tryd.isAgg59
  z213 := Tryd.sizeOf59
  t232 := Tryd.underlying63
  a232 := Tryd.isAgg63
  z232 := Tryd.sizeOf63
  v232 := Tryd.zeroValue63
  t233 := Tryd.underlying64
  a233 := Tryd.isAgg64
  z233 := Tryd.sizeOf64
  v233 := Tryd.zeroValue64
  g17 := by kernel_rfl
  g18 := by kernel_rfl
  g19 := by kernel_rfl
  i0 := by kernel_rfl
  i3 := by kernel_rfl
  i4 := by kernel_rfl
  i5 := by kernel_rfl
  i9 := by kernel_rfl
  i20 := by kernel_rfl
  i37 := by kernel_rfl
  i46 := by kernel_rfl
  i51 := by kernel_rfl
  i53 := by kernel_rfl
  i171 := by kernel_rfl
  i173 := by kernel_rfl
  i212 := by kernel_rfl
  i232 := by kernel_rfl
  i233 := by kernel_rfl
  m17 := by kernel_rfl
  m18 := by kernel_rfl
  m19 := by kernel_rfl }
open Go.RowKit Go.Sort Go.Lib in
theorem Tryd.internal_strconv_AppendUint_10_small (B n u : Nat) (hu : u < 100) (sv : Value) (xs : List Value) (w : World) (hown : w.ownsRow B 5 1 sv n xs) (hBw : B ≤ w.heap.size) (hlim : n + 20 ≤ 140737488355328) :
    Calls Tryd.prog 20 #[sv, .int .u64 u, .int .i64 10] w fun e w' => ∃ v', e = .returned v' ∧ w'.ownsRow B 5 1 v' (n + (Lib.decDigits u).length) (xs ++ Lib.byteCells (Lib.decDigits u)) ∧ Below B w w' ∧ Lib.OthersKept 5 none w w' := Any.internal_strconv_AppendUint_10_small Tryd.laysM288 B n u hu sv xs w hown hBw hlim
open Go.RowKit Go.Sort Go.Lib in
theorem Tryd.internal_strconv_AppendUint_10_big (B n u : Nat) (hu : 100 ≤ u) (hu64 : u < 18446744073709551616) (sv : Value) (xs : List Value) (w : World) (hown : w.ownsRow B 5 1 sv n xs) (hBw : B ≤ w.heap.size) (hlim : n + 20 ≤ 140737488355328) (htab : Lib.TabIs Tryd.prog w Qxb6604022aDoor.powName .u64 Lib.pow10Tab) :
    Calls Tryd.prog 20 #[sv, .int .u64 u, .int .i64 10] w fun e w' => ∃ v', e = .returned v' ∧ w'.ownsRow B 5 1 v' (n + (Lib.decDigits u).length) (xs ++ Lib.byteCells (Lib.decDigits u)) ∧ Below B w w' ∧ Lib.OthersKept 5 none w w' := Any.internal_strconv_AppendUint_10_big Tryd.laysM288 B n u hu hu64 sv xs w hown hBw hlim htab
open Go.RowKit Go.Sort Go.Lib in
theorem Tryd.internal_strconv_AppendUint_10 (B n u : Nat) (hu64 : u < 18446744073709551616) (sv : Value) (xs : List Value) (w : World) (hown : w.ownsRow B 5 1 sv n xs) (hBw : B ≤ w.heap.size) (hlim : n + 20 ≤ 140737488355328) (htab : Lib.TabIs Tryd.prog w Qxb6604022aDoor.powName .u64 Lib.pow10Tab) :
    Calls Tryd.prog 20 #[sv, .int .u64 u, .int .i64 10] w fun e w' => ∃ v', e = .returned v' ∧ w'.ownsRow B 5 1 v' (n + (Lib.decDigits u).length) (xs ++ Lib.byteCells (Lib.decDigits u)) ∧ Below B w w' ∧ Lib.OthersKept 5 none w w' := Any.internal_strconv_AppendUint_10 Tryd.laysM288 B n u hu64 sv xs w hown hBw hlim htab
def Tryd.laysM249_ren : Go.Shelf.Ren := ⟨fun | 249 => 21 | 288 => 20 | 283 => 23 | 284 => 24 | 285 => 25 | 286 => 26 | 129 => 28 | 317 => 27 | 318 => 29 | 319 => 30 | 320 => 31 | 337 => 32 | 338 => 33 | n => n, fun | 37 => 22 | 2 => 2 | 3 => 3 | 53 => 32 | 4 => 4 | 9 => 9 | 171 => 50 | 0 => 0 | 173 => 53 | 212 => 57 | 51 => 58 | 5 => 5 | 20 => 20 | 213 => 59 | 46 => 31 | 232 => 63 | 233 => 64 | n => n, fun | 17 => 0 | 18 => 1 | 19 => 2 | n => n⟩
theorem Tryd.laysM249 : Go.Proofs.LaysM.n249 Tryd.prog Tryd.laysM249_ren := {
  mixed := by kernel_rfl
  f129 := Tryd.func28.trans (congrArg some (by kernel_rfl))
  f249 := Tryd.func21.trans (congrArg some (by kernel_rfl))
  f283 := Tryd.func23.trans (congrArg some (by kernel_rfl))
  f284 := Tryd.func24.trans (congrArg some (by kernel_rfl))
  f285 := Tryd.func25.trans (congrArg some (by kernel_rfl))
  f286 := Tryd.func26.trans (congrArg some (by kernel_rfl))
  f288 := Tryd.func20.trans (congrArg some (by kernel_rfl))
  f317 := Tryd.func27.trans (congrArg some (by kernel_rfl))
  f318 := Tryd.func29.trans (congrArg some (by kernel_rfl))
  f319 := Tryd.func30.trans (congrArg some (by kernel_rfl))
  f320 := Tryd.func31.trans (congrArg some (by kernel_rfl))
  f337 := Tryd.func32.trans (congrArg some (by kernel_rfl))
  f338 := Tryd.func33.trans (congrArg some (by kernel_rfl))
  t0 := Tryd.underlying0
  a0 := Tryd.isAgg0
  z0 := Tryd.sizeOf0
  v0 := Tryd.zeroValue0
  t2 := Tryd.underlying2
  a2 := Tryd.isAgg2
  z2 := Tryd.sizeOf2
  v2 := Tryd.zeroValue2
  t3 := Tryd.underlying3
  a3 := Tryd.isAgg3
  z3 := Tryd.sizeOf3
  v3 := Tryd.zeroValue3
  t4 := Tryd.underlying4
  a4 := Tryd.isAgg4
  z4 := Tryd.sizeOf4
  v4 := Tryd.zeroValue4
  t5 := Tryd.underlying5
  a5 := Tryd.isAgg5
  z5 := Tryd.sizeOf5
  v5 := Tryd.zeroValue5
  t9 := Tryd.underlying9
  a9 := Tryd.isAgg9
  z9 := Tryd.sizeOf9
  v9 := Tryd.zeroValue9
  t20 := Tryd.underlying20
  a20 := Tryd.isAgg20
  z20 := Tryd.sizeOf20
  v20 := Tryd.zeroValue20
  t37 := Tryd.underlying22
  a37 := Tryd.isAgg22
  z37 := Tryd.sizeOf22
  v37 := Tryd.zeroValue22
  t46 := Tryd.underlying31
  a46 := Tryd.isAgg31
  z46 := Tryd.sizeOf31
  v46 := Tryd.zeroValue31
  t51 := Tryd.underlying58
  a51 := Tryd.isAgg58
  z51 := Tryd.sizeOf58
  v51 := Tryd.zeroValue58
  t53 := Tryd.underlying32
  a53 := Tryd.isAgg32
  z53 := Tryd.sizeOf32
  v53 := Tryd.zeroValue32
  t171 := Tryd.underlying50
  a171 := Tryd.isAgg50
  z171 := Tryd.sizeOf50
  v171 := Tryd.zeroValue50
  t173 := Tryd.underlying53
  a173 := Tryd.isAgg53
  z173 := Tryd.sizeOf53
  v173 := Tryd.zeroValue53
  t212 := Tryd.underlying57
  a212 := Tryd.isAgg57
  z212 := Tryd.sizeOf57
  v212 := Tryd.zeroValue57
  t213 := Tryd.underlying59
  a213 := Tryd.isAgg59
  z213 := Tryd.sizeOf59
  t232 := Tryd.underlying63
  a232 := Tryd.isAgg63
  z232 := Tryd.sizeOf63
  v232 := Tryd.zeroValue63
  t233 := Tryd.underlying64
  a233 := Tryd.isAgg64
  z233 := Tryd.sizeOf64
  v233 := Tryd.zeroValue64
  g17 := by kernel_rfl
  g18 := by kernel_rfl
  g19 := by kernel_rfl
  i0 := by kernel_rfl
  i2 := by kernel_rfl
  i3 := by kernel_rfl
  i4 := by kernel_rfl
  i5 := by kernel_rfl
  i9 := by kernel_rfl
  i20 := by kernel_rfl
  i37 := by kernel_rfl
  i46 := by kernel_rfl
  i51 := by kernel_rfl
  i53 := by kernel_rfl
  i171 := by kernel_rfl
  i173 := by kernel_rfl
  i212 := by kernel_rfl
  i232 := by kernel_rfl
  i233 := by kernel_rfl
  m17 := by kernel_rfl
  m18 := by kernel_rfl
  m19 := by kernel_rfl }
open Go.RowKit Go.Sort Go.Lib in
theorem Tryd.internal_strconv_AppendInt_10 (B n : Nat) (i : Int) (h0 : -9223372036854775808 ≤ i) (h1 : i ≤ 9223372036854775807) (sv : Value) (xs : List Value) (w : World) (hown : w.ownsRow B 5 1 sv n xs) (hBw : B ≤ w.heap.size) (hlim : n + 21 ≤ 140737488355328) (htab : Lib.TabBelow Tryd.prog B w Qxb6604022aDoor.powName .u64 Lib.pow10Tab) :
    Calls Tryd.prog 21 #[sv, .int .i64 i, .int .i64 10] w fun e w' => ∃ v', e = .returned v' ∧ w'.ownsRow B 5 1 v' (n + (Lib.itoa i).length) (xs ++ Lib.byteCells (Lib.itoa i)) ∧ Below B w w' ∧ Lib.OthersKept 5 none w w' := Any.internal_strconv_AppendInt_10 Tryd.laysM249 B n i h0 h1 sv xs w hown hBw hlim htab
def Tryd.laysM176_ren : Go.Shelf.Ren := ⟨fun | 176 => 17 | 249 => 21 | 288 => 20 | 283 => 23 | 284 => 24 | 285 => 25 | 286 => 26 | 129 => 28 | 317 => 27 | 318 => 29 | 319 => 30 | 320 => 31 | 337 => 32 | 338 => 33 | n => n, fun | 37 => 22 | 2 => 2 | 3 => 3 | 53 => 32 | 4 => 4 | 9 => 9 | 171 => 50 | 0 => 0 | 173 => 53 | 212 => 57 | 51 => 58 | 5 => 5 | 20 => 20 | 213 => 59 | 46 => 31 | 232 => 63 | 233 => 64 | n => n, fun | 17 => 0 | 18 => 1 | 19 => 2 | n => n⟩
theorem Tryd.laysM176 : Go.Proofs.LaysM.n176 Tryd.prog Tryd.laysM176_ren := {
  mixed := by kernel_rfl
  f129 := Tryd.func28.trans (congrArg some (by kernel_rfl))
  f176 := Tryd.func17.trans (congrArg some (by kernel_rfl))
  f249 := Tryd.func21.trans (congrArg some (by kernel_rfl))
  f283 := Tryd.func23.trans (congrArg some (by kernel_rfl))
  f284 := Tryd.func24.trans (congrArg some (by kernel_rfl))
  f285 := Tryd.func25.trans (congrArg some (by kernel_rfl))
  f286 := Tryd.func26.trans (congrArg some (by kernel_rfl))
  f288 := Tryd.func20.trans (congrArg some (by kernel_rfl))
  f317 := Tryd.func27.trans (congrArg some (by kernel_rfl))
  f318 := Tryd.func29.trans (congrArg some (by kernel_rfl))
  f319 := Tryd.func30.trans (congrArg some (by kernel_rfl))
  f320 := Tryd.func31.trans (congrArg some (by kernel_rfl))
  f337 := Tryd.func32.trans (congrArg some (by kernel_rfl))
  f338 := Tryd.func33.trans (congrArg some (by kernel_rfl))
  t0 := Tryd.underlying0
  a0 := Tryd.isAgg0
  z0 := Tryd.sizeOf0
  v0 := Tryd.zeroValue0
  t2 := Tryd.underlying2
  a2 := Tryd.isAgg2
  z2 := Tryd.sizeOf2
  v2 := Tryd.zeroValue2
  t3 := Tryd.underlying3
  a3 := Tryd.isAgg3
  z3 := Tryd.sizeOf3
  v3 := Tryd.zeroValue3
  t4 := Tryd.underlying4
  a4 := Tryd.isAgg4
  z4 := Tryd.sizeOf4
  v4 := Tryd.zeroValue4
  t5 := Tryd.underlying5
  a5 := Tryd.isAgg5
  z5 := Tryd.sizeOf5
  v5 := Tryd.zeroValue5
  t9 := Tryd.underlying9
  a9 := Tryd.isAgg9
  z9 := Tryd.sizeOf9
  v9 := Tryd.zeroValue9
  t20 := Tryd.underlying20
  a20 := Tryd.isAgg20
  z20 := Tryd.sizeOf20
  v20 := Tryd.zeroValue20
  t37 := Tryd.underlying22
  a37 := Tryd.isAgg22
  z37 := Tryd.sizeOf22
  v37 := Tryd.zeroValue22
  t46 := Tryd.underlying31
  a46 := Tryd.isAgg31
  z46 := Tryd.sizeOf31
  v46 := Tryd.zeroValue31
  t51 := Tryd.underlying58
  a51 := Tryd.isAgg58
  z51 := Tryd.sizeOf58
  v51 := Tryd.zeroValue58
  t53 := Tryd.underlying32
  a53 := Tryd.isAgg32
  z53 := Tryd.sizeOf32
  v53 := Tryd.zeroValue32
  t171 := Tryd.underlying50
  a171 := Tryd.isAgg50
  z171 := Tryd.sizeOf50
  v171 := Tryd.zeroValue50
  t173 := Tryd.underlying53
  a173 := Tryd.isAgg53
  z173 := Tryd.sizeOf53
  v173 := Tryd.zeroValue53
  t212 := Tryd.underlying57
  a212 := Tryd.isAgg57
  z212 := Tryd.sizeOf57
  v212 := Tryd.zeroValue57
  t213 := Tryd.underlying59
  a213 := Tryd.isAgg59
  z213 := Tryd.sizeOf59
  t232 := Tryd.underlying63
  a232 := Tryd.isAgg63
  z232 := Tryd.sizeOf63
  v232 := Tryd.zeroValue63
  t233 := Tryd.underlying64
  a233 := Tryd.isAgg64
  z233 := Tryd.sizeOf64
  v233 := Tryd.zeroValue64
  g17 := by kernel_rfl
  g18 := by kernel_rfl
  g19 := by kernel_rfl
  i0 := by kernel_rfl
  i2 := by kernel_rfl
  i3 := by kernel_rfl
  i4 := by kernel_rfl
  i5 := by kernel_rfl
  i9 := by kernel_rfl
  i20 := by kernel_rfl
  i37 := by kernel_rfl
  i46 := by kernel_rfl
  i51 := by kernel_rfl
  i53 := by kernel_rfl
  i171 := by kernel_rfl
  i173 := by kernel_rfl
  i212 := by kernel_rfl
  i232 := by kernel_rfl
  i233 := by kernel_rfl
  m17 := by kernel_rfl
  m18 := by kernel_rfl
  m19 := by kernel_rfl }
open Go.RowKit Go.Sort Go.Lib in
theorem Tryd.strconv_AppendInt_10 (B n : Nat) (i : Int) (h0 : -9223372036854775808 ≤ i) (h1 : i ≤ 9223372036854775807) (sv : Value) (xs : List Value) (w : World) (hown : w.ownsRow B 5 1 sv n xs) (hBw : B ≤ w.heap.size) (hlim : n + 21 ≤ 140737488355328) (htab : Lib.TabBelow Tryd.prog B w Qxb6604022aDoor.powName .u64 Lib.pow10Tab) :
    Calls Tryd.prog 17 #[sv, .int .i64 i, .int .i64 10] w fun e w' => ∃ v', e = .returned v' ∧ w'.ownsRow B 5 1 v' (n + (Lib.itoa i).length) (xs ++ Lib.byteCells (Lib.itoa i)) ∧ Below B w w' ∧ Lib.OthersKept 5 none w w' := Any.strconv_AppendInt_10 Tryd.laysM176 B n i h0 h1 sv xs w hown hBw hlim htab
end Go.Proofs
