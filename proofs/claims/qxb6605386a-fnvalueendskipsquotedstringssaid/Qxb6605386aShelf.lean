/-
  THE CONTRACT OF bytes.IndexByte AT THIS PROGRAM, in plain words, laid by the kit (lay-shelf.mjs, lay-plain.mjs).
-/
import Derived.Shelf.Bytes.SlIndexAt
import Derived.Test.Qxb6605386aProg
namespace Go.Proofs
open Go.Shelf
def Try.lays187_ren : Go.Shelf.Ren := ⟨fun | 187 => 44 | 255 => 48 | n => n, fun | 37 => 22 | 5 => 5 | 3 => 3 | n => n, fun | n => n⟩
theorem Try.lays187 : Go.Proofs.Lays.n187 Try.prog Try.lays187_ren := {
  mixed := by kernel_rfl
  f187 := Try.func44.trans (congrArg some (by kernel_rfl))
  f255 := Try.func48.trans (congrArg some (by kernel_rfl))
  t3 := Try.underlying3
  a3 := Try.isAgg3
  z3 := Try.sizeOf3
  v3 := Try.zeroValue3
  t5 := Try.underlying5
  a5 := Try.isAgg5
  z5 := Try.sizeOf5
  v5 := Try.zeroValue5
  t37 := Try.underlying22
  a37 := Try.isAgg22
  z37 := Try.sizeOf22
  v37 := Try.zeroValue22 }
/-- bytes.IndexByte -/
theorem Try.bytes_IndexByte_at (a : Addr) (n c : Nat) (xs : List Int) (cv : Int) (w : World) (hx : xs.length = n) (hc : ∀ i, i < n → w.cell? (a.add i) = some (.int .u8 (xs.getD i 0))) :
    Calls Try.prog 44 #[.slice (some a) n c, .int .u8 cv] w fun e w' => e = .returned (.int .i64 (Lib.indexByte (Lib.bytesOf xs) (UInt8.ofNat cv.toNat))) ∧ w' = w := Any.bytes_IndexByte_at Try.lays187 a n c xs cv w hx hc
end Go.Proofs
