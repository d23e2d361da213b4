/-
  DERIVED: THE SHELF's CONTRACTS AT THIS DUMP, IN PLAIN WORDS (tools/lay-plain.mjs out of 'Qxb6630891aDoorShelf.lean', which tools/lay-shelf.mjs wrote): THE SAME DECLARATIONS UNDER THE SAME NAMES: 'import', 'namespace', 'open', 'def', 'theorem' AND NOTHING ELSE: no command of the shelf's: FOR A HAND-IN. Each laying: the table of numbers ('.._ren') and one theorem, a field a fact of the dump's own or the kernel's comparison; each contract: ONE APPLICATION.
-/
import Derived.Shelf.LaysM
import Derived.Shelf.Strconv.Itoa4
import Derived.Ground.NamesProg
import Derived.Test.Qxb6630891aDoorRows
namespace Go.Proofs
open Go.Shelf
/-- The name of the table of powers, off the given row's own list. -/
def Qxb6630891aDoor.powName : String := (Qxb6630891aDoor.Rows.fnExpiryStringReadsBackRow.laid.map (fun x => x.1)).getD 2 ""
def Tryd.lays173_ren : Go.Shelf.Ren := ⟨fun | 173 => 8 | 246 => 10 | 283 => 11 | 284 => 12 | 285 => 13 | 286 => 14 | 129 => 16 | 317 => 15 | 318 => 17 | 319 => 18 | 320 => 19 | 337 => 20 | 338 => 21 | n => n, fun | 2 => 2 | 3 => 3 | 9 => 9 | 4 => 4 | 171 => 34 | 0 => 0 | 53 => 31 | 37 => 37 | 5 => 5 | 173 => 38 | 212 => 42 | 51 => 43 | 20 => 20 | 213 => 44 | 46 => 46 | 232 => 49 | 233 => 50 | n => n, fun | 17 => 0 | 18 => 1 | 19 => 2 | n => n⟩
theorem Tryd.lays173 : Go.Proofs.LaysM.n173 Tryd.prog Tryd.lays173_ren := {
  mixed := by kernel_rfl
  f129 := Tryd.func16.trans (congrArg some (by kernel_rfl))
  f173 := Tryd.func8.trans (congrArg some (by kernel_rfl))
  f246 := Tryd.func10.trans (congrArg some (by kernel_rfl))
  f283 := Tryd.func11.trans (congrArg some (by kernel_rfl))
  f284 := Tryd.func12.trans (congrArg some (by kernel_rfl))
  f285 := Tryd.func13.trans (congrArg some (by kernel_rfl))
  f286 := Tryd.func14.trans (congrArg some (by kernel_rfl))
  f317 := Tryd.func15.trans (congrArg some (by kernel_rfl))
  f318 := Tryd.func17.trans (congrArg some (by kernel_rfl))
  f319 := Tryd.func18.trans (congrArg some (by kernel_rfl))
  f320 := Tryd.func19.trans (congrArg some (by kernel_rfl))
  f337 := Tryd.func20.trans (congrArg some (by kernel_rfl))
  f338 := Tryd.func21.trans (congrArg some (by kernel_rfl))
  t0 := Tryd.underlying0
  a0 := Tryd.isAgg0
  z0 := Tryd.sizeOf0
  v0 := Tryd.zeroValue0
  t2 := Tryd.underlying2
  a2 := Tryd.isAgg2
  z2 := Tryd.sizeOf2
  v2 := Tryd.zeroValue2
  t3 := Tryd.underlying3
  a3 := Tryd.isAgg3
  z3 := Tryd.sizeOf3
  v3 := Tryd.zeroValue3
  t4 := Tryd.underlying4
  a4 := Tryd.isAgg4
  z4 := Tryd.sizeOf4
  v4 := Tryd.zeroValue4
  t5 := Tryd.underlying5
  a5 := Tryd.isAgg5
  z5 := Tryd.sizeOf5
  v5 := Tryd.zeroValue5
  t9 := Tryd.underlying9
  a9 := Tryd.isAgg9
  z9 := Tryd.sizeOf9
  v9 := Tryd.zeroValue9
  t20 := Tryd.underlying20
  a20 := Tryd.isAgg20
  z20 := Tryd.sizeOf20
  v20 := Tryd.zeroValue20
  t37 := Tryd.underlying37
  a37 := Tryd.isAgg37
  z37 := Tryd.sizeOf37
  v37 := Tryd.zeroValue37
  t46 := Tryd.underlying46
  a46 := Tryd.isAgg46
  z46 := Tryd.sizeOf46
  v46 := Tryd.zeroValue46
  t51 := Tryd.underlying43
  a51 := Tryd.isAgg43
  z51 := Tryd.sizeOf43
  v51 := Tryd.zeroValue43
  t53 := Tryd.underlying31
  a53 := Tryd.isAgg31
  z53 := Tryd.sizeOf31
  v53 := Tryd.zeroValue31
  t171 := Tryd.underlying34
  a171 := Tryd.isAgg34
  z171 := Tryd.sizeOf34
  v171 := Tryd.zeroValue34
  t173 := Tryd.underlying38
  a173 := Tryd.isAgg38
  z173 := Tryd.sizeOf38
  v173 := Tryd.zeroValue38
  t212 := Tryd.underlying42
  a212 := Tryd.isAgg42
  z212 := Tryd.sizeOf42
  v212 := Tryd.zeroValue42
  t213 := Tryd.underlying44
  a213 := Tryd.isAgg44
  z213 := Tryd.sizeOf44
  t232 := Tryd.underlying49
  a232 := Tryd.isAgg49
  z232 := Tryd.sizeOf49
  v232 := Tryd.zeroValue49
  t233 := Tryd.underlying50
  a233 := Tryd.isAgg50
  z233 := Tryd.sizeOf50
  v233 := Tryd.zeroValue50
  g17 := by kernel_rfl
  g18 := by kernel_rfl
  g19 := by kernel_rfl
  i0 := by kernel_rfl
  i2 := by kernel_rfl
  i3 := by kernel_rfl
  i4 := by kernel_rfl
  i5 := by kernel_rfl
  i9 := by kernel_rfl
  i20 := by kernel_rfl
  i37 := by kernel_rfl
  i46 := by kernel_rfl
  i51 := by kernel_rfl
  i53 := by kernel_rfl
  i171 := by kernel_rfl
  i173 := by kernel_rfl
  i212 := by kernel_rfl
  i232 := by kernel_rfl
  i233 := by kernel_rfl
  m17 := by kernel_rfl
  m18 := by kernel_rfl
  m19 := by kernel_rfl }
theorem Tryd.strconv_FormatInt_10 (n : Int) (h0 : -9223372036854775808 ≤ n) (h1 : n ≤ 9223372036854775807) (w : World) (htab : Lib.TabIs Tryd.prog w Qxb6630891aDoor.powName .u64 Lib.pow10Tab) :
    Calls Tryd.prog 8 #[.int .i64 n, .int .i64 10] w fun e w' => e = .returned (.string ⟨(Lib.itoa n).toArray⟩) ∧ ∃ k os, w' = Sort.grow (w.drewN k) os := Any.strconv_FormatInt_10 Tryd.lays173 n h0 h1 w htab
end Go.Proofs
