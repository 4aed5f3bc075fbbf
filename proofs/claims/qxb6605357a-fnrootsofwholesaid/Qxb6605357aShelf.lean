/-
  THE CONTRACT OF strings.Cut AT THIS PROGRAM, in plain words, laid by the kit (lay-shelf.mjs, lay-plain.mjs).
-/
import Derived.Shelf.Strings.Search1
import Derived.Shelf.Strings.Search2
import Derived.Shelf.Strings.Cut
import Derived.Shelf.LaysM
import Derived.Shelf.Strings.Shaped
import Derived.Test.Qxb6605357aProg
namespace Go.Proofs
open Go.Shelf
def Try.lays145_ren : Go.Shelf.Ren := ⟨fun | 145 => 15 | 220 => 16 | 219 => 17 | 217 => 18 | 225 => 19 | 224 => 20 | 267 => 21 | 266 => 22 | 314 => 23 | n => n, fun | 9 => 9 | 4 => 4 | 59 => 31 | 3 => 3 | 5 => 5 | 46 => 36 | 146 => 38 | 51 => 37 | n => n, fun | 1 => 0 | n => n⟩
theorem Try.lays145 : Go.Proofs.Lays.n145 Try.prog Try.lays145_ren := {
  mixed := by kernel_rfl
  f145 := Try.func15.trans (congrArg some (by kernel_rfl))
  f217 := Try.func18.trans (congrArg some (by kernel_rfl))
  f219 := Try.func17.trans (congrArg some (by kernel_rfl))
  f220 := Try.func16.trans (congrArg some (by kernel_rfl))
  f224 := Try.func20.trans (congrArg some (by kernel_rfl))
  f225 := Try.func19.trans (congrArg some (by kernel_rfl))
  f266 := Try.func22.trans (congrArg some (by kernel_rfl))
  f267 := Try.func21.trans (congrArg some (by kernel_rfl))
  f314 := Try.func23.trans (congrArg some (by kernel_rfl))
  t3 := Try.underlying3
  a3 := Try.isAgg3
  z3 := Try.sizeOf3
  v3 := Try.zeroValue3
  t4 := Try.underlying4
  a4 := Try.isAgg4
  z4 := Try.sizeOf4
  v4 := Try.zeroValue4
  t5 := Try.underlying5
  a5 := Try.isAgg5
  z5 := Try.sizeOf5
  v5 := Try.zeroValue5
  t9 := Try.underlying9
  a9 := Try.isAgg9
  z9 := Try.sizeOf9
  v9 := Try.zeroValue9
  t46 := Try.underlying36
  a46 := Try.isAgg36
  z46 := Try.sizeOf36
  v46 := Try.zeroValue36
  t51 := Try.underlying37
  a51 := Try.isAgg37
  z51 := Try.sizeOf37
  v51 := Try.zeroValue37
  t59 := Try.underlying31
  a59 := Try.isAgg31
  z59 := Try.sizeOf31
  v59 := Try.zeroValue31
  t146 := Try.underlying38
  a146 := Try.isAgg38
  z146 := Try.sizeOf38
  v146 := Try.zeroValue38
  g1 := by kernel_rfl }
open Go.RowKit Go.Lib in
/-- strings.Cut: "Cut slices s around the first instance of sep, returning the text before and after sep. The found result reports whether sep appears in s. If sep does not appear in s, cut returns s, "", false.": IT RETURNS 'Lib.cut s sep'; the world is as it was but for the count of draws. (LAID: no walk: one application.) -/
theorem Try.strings_Cut (s sep : ByteArray) (m : Int) (w : World) (hs : s.size < 4294967281) (hm : w.cell? ⟨0, 0, none⟩ = some (.int .i64 m)) :
    Calls Try.prog 15 #[.string s, .string sep] w fun e w' => e = .returned (.tuple #[.string ⟨(Lib.cut s.data.toList sep.data.toList).1.toArray⟩, .string ⟨(Lib.cut s.data.toList sep.data.toList).2.1.toArray⟩, .bool (Lib.cut s.data.toList sep.data.toList).2.2]) ∧ ∃ n, w' = w.drewN n := Any.strings_Cut Try.lays145 s sep m w hs hm
def Try.laysM145_ren : Go.Shelf.Ren := ⟨fun | 145 => 15 | 220 => 16 | 219 => 17 | 217 => 18 | 225 => 19 | 224 => 20 | 267 => 21 | 266 => 22 | 314 => 23 | n => n, fun | 9 => 9 | 4 => 4 | 59 => 31 | 3 => 3 | 5 => 5 | 46 => 36 | 146 => 38 | 51 => 37 | n => n, fun | 1 => 0 | n => n⟩
theorem Try.laysM145 : Go.Proofs.LaysM.n145 Try.prog Try.laysM145_ren := {
  mixed := by kernel_rfl
  f145 := Try.func15.trans (congrArg some (by kernel_rfl))
  f217 := Try.func18.trans (congrArg some (by kernel_rfl))
  f219 := Try.func17.trans (congrArg some (by kernel_rfl))
  f220 := Try.func16.trans (congrArg some (by kernel_rfl))
  f224 := Try.func20.trans (congrArg some (by kernel_rfl))
  f225 := Try.func19.trans (congrArg some (by kernel_rfl))
  f266 := Try.func22.trans (congrArg some (by kernel_rfl))
  f267 := Try.func21.trans (congrArg some (by kernel_rfl))
  f314 := Try.func23.trans (congrArg some (by kernel_rfl))
  t3 := Try.underlying3
  a3 := Try.isAgg3
  z3 := Try.sizeOf3
  v3 := Try.zeroValue3
  t4 := Try.underlying4
  a4 := Try.isAgg4
  z4 := Try.sizeOf4
  v4 := Try.zeroValue4
  t5 := Try.underlying5
  a5 := Try.isAgg5
  z5 := Try.sizeOf5
  v5 := Try.zeroValue5
  t9 := Try.underlying9
  a9 := Try.isAgg9
  z9 := Try.sizeOf9
  v9 := Try.zeroValue9
  t46 := Try.underlying36
  a46 := Try.isAgg36
  z46 := Try.sizeOf36
  v46 := Try.zeroValue36
  t51 := Try.underlying37
  a51 := Try.isAgg37
  z51 := Try.sizeOf37
  v51 := Try.zeroValue37
  t59 := Try.underlying31
  a59 := Try.isAgg31
  z59 := Try.sizeOf31
  v59 := Try.zeroValue31
  t146 := Try.underlying38
  a146 := Try.isAgg38
  z146 := Try.sizeOf38
  v146 := Try.zeroValue38
  g1 := by kernel_rfl
  i3 := by kernel_rfl
  i4 := by kernel_rfl
  i5 := by kernel_rfl
  i9 := by kernel_rfl
  i46 := by kernel_rfl
  i51 := by kernel_rfl
  i59 := by kernel_rfl
  i146 := by kernel_rfl
  m1 := by kernel_rfl
  s1_3 := fun w h => Go.Proofs.cell_of_shapedOpen_int (zero := #[.int .i64 0]) (t := 3) h (of_decide_eq_true (by kernel_rfl)) (by kernel_rfl) rfl (by kernel_rfl) (by kernel_rfl) Try.underlying3 }
end Go.Proofs
