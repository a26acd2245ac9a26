/-
  The shelf's contract for internal/stringslite.Clone at this program, in plain words (written by the kit's lay-plain tool, names turned).
-/
import Derived.Shelf.LaysM
import Derived.Shelf.Strconv.Clone
import Derived.Test.Qxb6630489aRows
namespace Go.Proofs.Qxb6630489a
open Go.Shelf
def cloneRen : Go.Shelf.Ren := ⟨fun | 316 => 18 | n => n, fun | 9 => 9 | 3 => 3 | 4 => 4 | 37 => 38 | 0 => 0 | 127 => 39 | 5 => 5 | n => n, fun | n => n⟩
theorem cloneLays : Go.Proofs.LaysM.n316 Try.prog cloneRen := {
  mixed := by kernel_rfl
  f316 := Try.func18.trans (congrArg some (by kernel_rfl))
  t0 := Try.underlying0
  a0 := Try.isAgg0
  z0 := Try.sizeOf0
  v0 := Try.zeroValue0
  t3 := Try.underlying3
  a3 := Try.isAgg3
  z3 := Try.sizeOf3
  v3 := Try.zeroValue3
  t4 := Try.underlying4
  a4 := Try.isAgg4
  z4 := Try.sizeOf4
  v4 := Try.zeroValue4
  t9 := Try.underlying9
  a9 := Try.isAgg9
  z9 := Try.sizeOf9
  v9 := Try.zeroValue9
  t37 := Try.underlying38
  a37 := Try.isAgg38
  z37 := Try.sizeOf38
  v37 := Try.zeroValue38
  t127 := Try.underlying39
  a127 := Try.isAgg39
  z127 := Try.sizeOf39
  v127 := Try.zeroValue39
  t5 := Try.underlying5
  a5 := Try.isAgg5
  z5 := Try.sizeOf5
  v5 := Try.zeroValue5
  i0 := by kernel_rfl
  i3 := by kernel_rfl
  i4 := by kernel_rfl
  i5 := by kernel_rfl
  i9 := by kernel_rfl
  i37 := by kernel_rfl
  i127 := by kernel_rfl }
open Go.RowKit in
/-- internal/stringslite.Clone hands back the same bytes: the shelf's contract, laid at this program. -/
theorem slClone (s : ByteArray) (w : World) (hlim : s.size ≤ 281474976710656) :
    Calls Try.prog 18 #[.string s] w fun e w' => e = .returned (.string s) ∧ Below w.heap.size w w' := Any.stringslite_Clone cloneLays s w hlim
end Go.Proofs.Qxb6630489a
