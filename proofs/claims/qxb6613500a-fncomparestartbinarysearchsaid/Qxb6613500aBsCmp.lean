/-
  FnCompareStartBinarySearch: the callees' contracts: zzBytes (function 11), ZZcompareStart (function 12, which enters compareStart and cmp.Compare).
-/
import Derived.Test.Qxb6613500aRows
import Derived.WalkKit
namespace Go.Proofs.Qxb6613500a.Bs
open Go.RowKit

/-- ZZcompareStart where the start is less. -/
theorem cmp_lt (s e a : Int) (h : s < a) (w : World) :
    Calls Try.prog 12 #[.int .i64 s, .int .i64 e, .int .i64 a] w fun r w' => r = .returned (.int .i64 (-1)) ∧ w' = w.alloc (.cells #[.int .i64 s, .int .i64 e] 42) := by
  go_enter Try.func12, Try.ntmps12
  go_wp2
  go_ret
  exact ⟨rfl, rfl⟩

/-- .. where it is the same. -/
theorem cmp_eq (s e a : Int) (h1 : a ≤ s) (h2 : s ≤ a) (w : World) :
    Calls Try.prog 12 #[.int .i64 s, .int .i64 e, .int .i64 a] w fun r w' => r = .returned (.int .i64 0) ∧ w' = w.alloc (.cells #[.int .i64 s, .int .i64 e] 42) := by
  go_enter Try.func12, Try.ntmps12
  go_wp2
  go_ret
  exact ⟨rfl, rfl⟩

/-- .. where it is greater. -/
theorem cmp_gt (s e a : Int) (h2 : a < s) (w : World) :
    Calls Try.prog 12 #[.int .i64 s, .int .i64 e, .int .i64 a] w fun r w' => r = .returned (.int .i64 1) ∧ w' = w.alloc (.cells #[.int .i64 s, .int .i64 e] 42) := by
  go_enter Try.func12, Try.ntmps12
  go_wp2
  go_ret
  exact ⟨rfl, rfl⟩

/-- zzBytes of a long slice. -/
theorem bytes_no (x : Option Addr) (n c : Nat) (at' : Int) (h : 1048576 < n) (w : World) :
    Calls Try.prog 11 #[.slice x n c, .int .i64 at'] w fun r w' => r = .returned (.bool false) ∧ w' = w := by
  have h' : (1048576 : Int) < (n : Int) := by omega
  go_enter Try.func11, Try.ntmps11
  go_wp2
  go_ret
  exact ⟨rfl, rfl⟩

/-- zzBytes of a slice that is not too long. -/
theorem bytes_yes (x : Option Addr) (n c : Nat) (at' : Int) (h : n ≤ 1048576) (w : World) :
    Calls Try.prog 11 #[.slice x n c, .int .i64 at'] w fun r w' => r = .returned (.bool true) ∧ w' = w := by
  have h' : (n : Int) ≤ 1048576 := by omega
  go_enter Try.func11, Try.ntmps11
  go_wp2
  go_ret
  exact ⟨rfl, rfl⟩

end Go.Proofs.Qxb6613500a.Bs
