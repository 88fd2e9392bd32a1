/-
  The shelf's contract of path.Join, laid at this seat's dump (by the kit's lay-shelf.mjs and lay-plain.mjs; the names turned into this seat's namespace).
-/
import Derived.Shelf.Path.Join
import Derived.Test.Qxb6613500aProg
namespace Go.Proofs.Qxb6613500a.Fl
open Go.Shelf
def laysPah31_ren : Go.Shelf.Ren := ⟨fun | 31 => 13 | 30 => 15 | 46 => 17 | 47 => 18 | 48 => 19 | n => n, fun | 26 => 38 | 9 => 9 | 3 => 3 | 0 => 0 | 4 => 4 | 30 => 39 | 5 => 5 | 42 => 45 | 48 => 49 | n => n, fun | n => n⟩
theorem laysPah31 : Go.Proofs.Lays.ph31 Try.prog laysPah31_ren := {
  mixed := by kernel_rfl
  f30 := Try.func15.trans (congrArg some (by kernel_rfl))
  f31 := Try.func13.trans (congrArg some (by kernel_rfl))
  f46 := Try.func17.trans (congrArg some (by kernel_rfl))
  f47 := Try.func18.trans (congrArg some (by kernel_rfl))
  f48 := Try.func19.trans (congrArg some (by kernel_rfl))
  t0 := Try.underlying0
  a0 := Try.isAgg0
  z0 := Try.sizeOf0
  v0 := Try.zeroValue0
  t3 := Try.underlying3
  a3 := Try.isAgg3
  z3 := Try.sizeOf3
  v3 := Try.zeroValue3
  t4 := Try.underlying4
  a4 := Try.isAgg4
  z4 := Try.sizeOf4
  v4 := Try.zeroValue4
  t5 := Try.underlying5
  a5 := Try.isAgg5
  z5 := Try.sizeOf5
  v5 := Try.zeroValue5
  t9 := Try.underlying9
  a9 := Try.isAgg9
  z9 := Try.sizeOf9
  v9 := Try.zeroValue9
  t26 := Try.underlying38
  a26 := Try.isAgg38
  z26 := Try.sizeOf38
  v26 := Try.zeroValue38
  t30 := Try.underlying39
  a30 := Try.isAgg39
  z30 := Try.sizeOf39
  v30 := Try.zeroValue39
  t42 := Try.underlying45
  a42 := Try.isAgg45
  z42 := Try.sizeOf45
  v42 := Try.zeroValue45
  t48 := Try.underlying49
  a48 := Try.isAgg49
  z48 := Try.sizeOf49
  v48 := Try.zeroValue49
  info5 := by kernel_rfl }
open Go.RowKit Go.Lib in
/-- path.Join (function 13) by the shelf's contract, at this seat's numbers. -/
theorem path_Join (bk o c : Nat) (xs : List ByteArray) (w : World) (hcells : ∀ (j : Nat) x, xs[j]? = some x → w.cell? ⟨bk, o + j, none⟩ = some (.string x)) (hbk : bk < w.heap.size) (hlen : Pa.lens (xs.map (·.data.toList)) + xs.length ≤ 281474976710656) :
    Calls Try.prog 13 #[.slice (some ⟨bk, o, none⟩) xs.length c] w fun e w' => e = .returned (.string ⟨(Pa.joinL (xs.map (·.data.toList))).toArray⟩) ∧ Below w.heap.size w w' := Any.path_Join laysPah31 bk o c xs w hcells hbk hlen
end Go.Proofs.Qxb6613500a.Fl
