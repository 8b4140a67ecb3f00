/-
  The shelf's contract of the library's AppendUint (base 10), laid at this dump: the table of numbers and the structure are the kit's lay-shelf.mjs and lay-plain.mjs's print for this program, cut down to the one laying that is used.
-/
import Derived.Shelf.LaysM
import Derived.Shelf.Strconv.AppendUint10
import Derived.Shelf.Strconv.AppendInt10
import Derived.Test.Qxb6630879aDoorRows
namespace Go.Proofs.Qxb6630879aDoor
open Go.Shelf Go.RowKit
def laysRen : Go.Shelf.Ren := ⟨fun | 288 => 11 | 283 => 12 | 284 => 13 | 285 => 14 | 286 => 15 | 129 => 17 | 317 => 16 | 318 => 18 | 319 => 19 | 320 => 20 | 337 => 21 | 338 => 22 | n => n, fun | 37 => 23 | 53 => 26 | 3 => 3 | 4 => 4 | 9 => 9 | 171 => 32 | 0 => 0 | 173 => 35 | 212 => 39 | 51 => 40 | 5 => 5 | 20 => 20 | 213 => 41 | 46 => 43 | 232 => 46 | 233 => 47 | n => n, fun | 17 => 0 | 18 => 1 | 19 => 2 | n => n⟩
theorem lays288 : Go.Proofs.LaysM.n288 Tryd.prog laysRen := {
  mixed := by kernel_rfl
  f129 := Tryd.func17.trans (congrArg some (by kernel_rfl))
  f283 := Tryd.func12.trans (congrArg some (by kernel_rfl))
  f284 := Tryd.func13.trans (congrArg some (by kernel_rfl))
  f285 := Tryd.func14.trans (congrArg some (by kernel_rfl))
  f286 := Tryd.func15.trans (congrArg some (by kernel_rfl))
  f288 := Tryd.func11.trans (congrArg some (by kernel_rfl))
  f317 := Tryd.func16.trans (congrArg some (by kernel_rfl))
  f318 := Tryd.func18.trans (congrArg some (by kernel_rfl))
  f319 := Tryd.func19.trans (congrArg some (by kernel_rfl))
  f320 := Tryd.func20.trans (congrArg some (by kernel_rfl))
  f337 := Tryd.func21.trans (congrArg some (by kernel_rfl))
  f338 := Tryd.func22.trans (congrArg some (by kernel_rfl))
  t0 := Tryd.underlying0
  a0 := Tryd.isAgg0
  z0 := Tryd.sizeOf0
  v0 := Tryd.zeroValue0
  t3 := Tryd.underlying3
  a3 := Tryd.isAgg3
  z3 := Tryd.sizeOf3
  v3 := Tryd.zeroValue3
  t4 := Tryd.underlying4
  a4 := Tryd.isAgg4
  z4 := Tryd.sizeOf4
  v4 := Tryd.zeroValue4
  t5 := Tryd.underlying5
  a5 := Tryd.isAgg5
  z5 := Tryd.sizeOf5
  v5 := Tryd.zeroValue5
  t9 := Tryd.underlying9
  a9 := Tryd.isAgg9
  z9 := Tryd.sizeOf9
  v9 := Tryd.zeroValue9
  t20 := Tryd.underlying20
  a20 := Tryd.isAgg20
  z20 := Tryd.sizeOf20
  v20 := Tryd.zeroValue20
  t37 := Tryd.underlying23
  a37 := Tryd.isAgg23
  z37 := Tryd.sizeOf23
  v37 := Tryd.zeroValue23
  t46 := Tryd.underlying43
  a46 := Tryd.isAgg43
  z46 := Tryd.sizeOf43
  v46 := Tryd.zeroValue43
  t51 := Tryd.underlying40
  a51 := Tryd.isAgg40
  z51 := Tryd.sizeOf40
  v51 := Tryd.zeroValue40
  t53 := Tryd.underlying26
  a53 := Tryd.isAgg26
  z53 := Tryd.sizeOf26
  v53 := Tryd.zeroValue26
  t171 := Tryd.underlying32
  a171 := Tryd.isAgg32
  z171 := Tryd.sizeOf32
  v171 := Tryd.zeroValue32
  t173 := Tryd.underlying35
  a173 := Tryd.isAgg35
  z173 := Tryd.sizeOf35
  v173 := Tryd.zeroValue35
  t212 := Tryd.underlying39
  a212 := Tryd.isAgg39
  z212 := Tryd.sizeOf39
  v212 := Tryd.zeroValue39
  t213 := Tryd.underlying41
  a213 := Tryd.isAgg41
  z213 := Tryd.sizeOf41
  t232 := Tryd.underlying46
  a232 := Tryd.isAgg46
  z232 := Tryd.sizeOf46
  v232 := Tryd.zeroValue46
  t233 := Tryd.underlying47
  a233 := Tryd.isAgg47
  z233 := Tryd.sizeOf47
  v233 := Tryd.zeroValue47
  g17 := by kernel_rfl
  g18 := by kernel_rfl
  g19 := by kernel_rfl
  i0 := by kernel_rfl
  i3 := by kernel_rfl
  i4 := by kernel_rfl
  i5 := by kernel_rfl
  i9 := by kernel_rfl
  i20 := by kernel_rfl
  i37 := by kernel_rfl
  i46 := by kernel_rfl
  i51 := by kernel_rfl
  i53 := by kernel_rfl
  i171 := by kernel_rfl
  i173 := by kernel_rfl
  i212 := by kernel_rfl
  i232 := by kernel_rfl
  i233 := by kernel_rfl
  m17 := by kernel_rfl
  m18 := by kernel_rfl
  m19 := by kernel_rfl }
/-- The name of the table of powers of ten, off the given row. -/
def powName : String := Rows.fnAppendOrdersAsTheAmountsRow.named.headD ""
/-- The table reads as the powers of ten. -/
def Pow (w : World) : Prop := Lib.TabIs Tryd.prog w powName .u64 Lib.pow10Tab
theorem appendUint (B n u : Nat) (hu64 : u < 18446744073709551616) (sv : Value) (xs : List Value) (w : World) (hown : w.ownsRow B 5 1 sv n xs) (hBw : B ≤ w.heap.size) (hlim : n + 20 ≤ 140737488355328) (htab : Pow w) :
    Calls Tryd.prog 11 #[sv, .int .u64 u, .int .i64 10] w fun e w' => ∃ v', e = .returned v' ∧ w'.ownsRow B 5 1 v' (n + (Lib.decDigits u).length) (xs ++ Lib.byteCells (Lib.decDigits u)) ∧ Below B w w' ∧ Lib.OthersKept 5 none w w' :=
  Any.internal_strconv_AppendUint_10 lays288 B n u hu64 sv xs w hown hBw hlim htab
/-- The table lies in a block of the program's own: new memory does not turn it. -/
theorem Pow.below {w w' : World} (h : Pow w) (hb : Below w.heap.size w w') : Pow w' := Lib.tabBelow_of_tabIs h w' hb
end Go.Proofs.Qxb6630879aDoor
