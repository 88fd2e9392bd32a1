/-
  FnCompareStartBinarySearch: the plain laws: a function on indices that goes up. No Go in sight.
-/
import Derived.Below
namespace Go.Proofs.Qxb6613500a.Bs
open Go.RowKit

theorem up_mono {S : Nat → Int} {n : Nat} (h : ∀ j, 1 ≤ j → j < n → S (j - 1) ≤ S j) : ∀ (d i : Nat), i + d < n → S i ≤ S (i + d)
  | 0, i, _ => Int.le_refl _
  | d + 1, i, hi => by
    have h1 := up_mono h d i (by omega)
    have h2 := h (i + (d + 1)) (by omega) hi
    rw [show i + (d + 1) - 1 = i + d by omega] at h2
    omega

theorem step_lo {S : Nat → Int} {n m : Nat} {a : Int} (h : ∀ j, 1 ≤ j → j < n → S (j - 1) ≤ S j) (hm : m < n) (hs : S m < a) : ∀ j, j < m + 1 → S j < a := by
  intro j hj
  have := up_mono h (m - j) j (by omega)
  rw [show j + (m - j) = m by omega] at this
  omega

theorem step_hi {S : Nat → Int} {n m : Nat} {a : Int} (h : ∀ j, 1 ≤ j → j < n → S (j - 1) ≤ S j) (hs : ¬ S m < a) : ∀ j, m ≤ j → j < n → a ≤ S j := by
  intro j hj hn
  have := up_mono h (j - m) m (by omega)
  rw [show m + (j - m) = j by omega] at this
  omega

theorem sort_step {S : Nat → Int} {k : Nat} (h : ∀ j, 1 ≤ j → j < k → S (j - 1) ≤ S j) (hs : ¬ S k < S (k - 1)) : ∀ j, 1 ≤ j → j < k + 1 → S (j - 1) ≤ S j := by
  intro j h1 h2
  by_cases e : j = k
  · subst e; omega
  · exact h j h1 (by omega)

end Go.Proofs.Qxb6613500a.Bs
