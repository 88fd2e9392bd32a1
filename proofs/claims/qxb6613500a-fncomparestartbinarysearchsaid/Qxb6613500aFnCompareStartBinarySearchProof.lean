/-
  'Rows.FnCompareStartBinarySearchSaid', proved: the row's step over the walks of Qxb6613500aBsWalks.lean.
-/
import Derived.Test.Qxb6613500aRows
import Derived.WalkKit
import Derived.ProofKit
import Derived.OpenShut
import Derived.ShutString
import Derived.ChangeOld
import Derived.Below
import Derived.Deep.SlicePairs
import Derived.Test.Qxb6613500aBsWalks
namespace Go.Proofs.Qxb6613500a.fnCompareStartBinarySearch
open Go.ChangeShapes Go.WideShapes Go.ChangeAt Go.RowKit
set_option linter.unusedVariables false

theorem own : ownKnob Try.prog.godebug = none := by kernel_rfl
theorem laidOut : laidOutB Try.prog = true := by kernel_rfl

/-- What the walk is told of the slice of spans that came in: it is nil; or its elements' cells hold numbers. -/
def IsSpans (w : World) (a : Option Addr) (len : Nat) (S E : Nat → Int) : Prop :=
  (a = none ∧ len = 0) ∨
  ∃ x : Addr, a = some x ∧ ∀ i, i < len → w.cell? (x.add (i * 2)) = some (.int .i64 (S i)) ∧ w.cell? (x.add (i * 2 + 1)) = some (.int .i64 (E i))

theorem walk (a0 : Option Addr) (len0 cap0 : Nat) (S E : Nat → Int) (a1 : Int) (w : World) (w0 : IsSpans w a0 len0 S E) :
    Calls Try.prog 5 #[.slice a0 len0 cap0, .int .i64 a1] w fun e w' => e = .returned (.bool true) ∧ Below w.heap.size w w' := by
  by_cases h1 : 1048576 < len0
  · exact Bs.walk_huge a0 len0 cap0 a1 w h1
  by_cases h2 : 65536 < len0
  · exact Bs.walk_long a0 len0 cap0 a1 w h2 (by omega)
  by_cases h3 : len0 = 0
  · subst h3
    exact Bs.walk_none a0 cap0 a1 w
  rcases w0 with ⟨_, h0⟩ | ⟨x, rfl, hc⟩
  · exact absurd h0 h3
  obtain ⟨b, off, spot⟩ := x
  have hspot : spot = none := by simpa [Addr.add] using World.cell?_spot (hc 0 (by omega)).1
  subst hspot
  have hS : ∀ i, i < len0 → w.cell? ⟨b, off + i * 2, none⟩ = some (.int .i64 (S i)) := fun i hi => by rw [← add_plain]; exact (hc i hi).1
  have hE : ∀ i, i < len0 → w.cell? ⟨b, off + i * 2 + 1, none⟩ = some (.int .i64 (E i)) := fun i hi => by
    have := (hc i hi).2
    rwa [add_plain, ← Nat.add_assoc] at this
  have hb : b < w.heap.size := by
    have := hS 0 (by omega)
    exact World.block_lt_of_cell? _ _ this
  exact Bs.walk_main b off len0 cap0 S E a1 w (by omega) (by omega) hS hE hb

theorem cells35 : Try.prog.cellsOf 35 = 2 := by kernel_rfl
theorem cells3 : Try.prog.cellsOf 3 = 1 := by kernel_rfl

set_option maxRecDepth 100000 in
theorem lifted (os : Os) (started : os.Started) (H : Type) (enc : TypeId × Value → H) :
    ReturnsInHanded {} Try.checked os 5 .any (Rows.fnCompareStartBinarySearchSpec.pre6 enc Try.prog Try.f5 Rows.fnCompareStartBinarySearchRow.domain false) (Rows.fnCompareStartBinarySearchSpec.post enc Try.prog Try.f5 false true false false) := by
  refine returnsInHanded_of_change (C := Try.checked) own started (by kernel_rfl) Try.func5
    (ChangeSpec.witness6 (enc := enc) (C := Try.checked) false ⟨#[], #[.slice none 0 0, .int .i64 0], []⟩ 8 (by kernel_rfl) (by kernel_rfl) (by kernel_rfl) (by kernel_rfl)) ?_
  intro W base args ds gs before hval0 hW hcnd _
  have hval : ∀ (j : Nat) t v, Try.f5.params[j]? = some t → args[j]? = some v → Value.okWide Try.prog W .any base t v := hval0
  have hW' := hW
  obtain ⟨p, q, hA0, hV, rfl, hfz, hnd⟩ := hW
  have hA : DataW.TrodAll enc Try.prog W 0 (fun _ => true) true Try.f5.params.toList args.toList ds p := hA0
  rw [Try.params5] at hA hval
  obtain ⟨v0, vs0, d0, ds0, p0, q0, hargs, rfl, rfl, h0, r0⟩ := trodAll_cons hA
  obtain ⟨v1, vs1, d1, ds1, p1, q1, rfl, rfl, rfl, h1, r1⟩ := trodAll_cons r0
  obtain ⟨rfl, rfl, rfl⟩ := trodAll_nil r1
  obtain rfl : args = #[v0, v1] := by cases args; simp_all
  obtain ⟨rfl, rfl⟩ := trodVars_none hV
  obtain ⟨a0, len0, cap0, rfl⟩ := okWide_slice Try.underlying32 (hval 0 32 v0 rfl rfl)
  have k0 := h0
  have lt0 : ∀ x ∈ p0, x.block < W.heap.size := by obtain ⟨m, hm⟩ := k0; exact DataW.trod_lt m _ _ _ hm
  obtain ⟨S, E, w0⟩ : ∃ S E, IsSpans W a0 len0 S E := by
    obtain ⟨fuel, hf⟩ := h0
    rcases Go.Deep.open_slice_pairs Try.underlying32 Try.underlying35 cells35 rfl rfl cells3 cells3 hf with ⟨hcs, _⟩ | ⟨x, l, c, m, n, V0, V1, D0, D1, P0, P1, hcs, _, hl, hm, hmm, _, hcell⟩
    · simp [Value.cells] at hcs
      obtain ⟨rfl, rfl, rfl⟩ := hcs
      exact ⟨fun _ => 0, fun _ => 0, .inl ⟨rfl, rfl⟩⟩
    · simp [Value.cells] at hcs
      obtain ⟨rfl, rfl, rfl⟩ := hcs
      simp only [if_true] at hmm
      have each : ∀ i, i < len0 → ∃ q : Int × Int, W.cell? (x.add (i * 2)) = some (.int .i64 q.1) ∧ W.cell? (x.add (i * 2 + 1)) = some (.int .i64 q.2) := by
        intro i hi
        obtain ⟨e0, e1, t0, t1⟩ := hcell i (by omega)
        obtain ⟨s, es, _, _⟩ := DataW.trod_int Try.underlying3 t0
        obtain ⟨e, ee, _, _⟩ := DataW.trod_int Try.underlying3 t1
        simp at es ee
        rw [es] at e0
        rw [ee] at e1
        exact ⟨(s, e), e0, e1⟩
      obtain ⟨f, hf⟩ := Go.Deep.choose_lt each
      exact ⟨fun i => (f i).1, fun i => (f i).2, .inr ⟨x, rfl, hf⟩⟩
  obtain ⟨a1, rfl, rfl, rfl, w1⟩ := open_int Try.underlying3 (hval 1 3 v1 rfl rfl) h1
  clear hA0 hval0
  refine (walk a0 len0 cap0 S E a1 W w0).mono fun e W' ⟨he, bel⟩ => ?_
  subst he
  exact ⟨_, rfl, _, _, _, [], _, [], hW', trodAll_mk1 (shut_bool Try.underlying4 _), (trodAll_cons_mk (Below.trod laidOut (by kernel_rfl) (of_decide_eq_true (by kernel_rfl)) k0 bel lt0) (trodAll_cons_mk (shut_int Try.underlying3 w1) trodAll_mk0)), rfl, bel.frame _, fun h => by cases h⟩

theorem over : Rows.fnCompareStartBinarySearchRow.holds Try.pinned (OpenSpec.ofChange Rows.fnCompareStartBinarySearchSpec) :=
  OpenClaim.holds_of_wide 5 Try.f5 rfl rfl rfl rfl rfl rfl rfl ⟨rfl, rfl, rfl, rfl, rfl⟩ rfl rfl rfl rfl rfl (by kernel_rfl) Try.func5 (by kernel_rfl)
    (of_decide_eq_true (by kernel_rfl)) (by unfold Func.isWrapper; first | (rw [if_pos (by decide +kernel)]; kernel_rfl) | (rw [if_neg (by decide +kernel)]; exact ⟨rfl, rfl⟩))
    (fun os started H enc _ => lifted os started H enc)

/-- THE STATEMENT. -/
theorem proved : Rows.FnCompareStartBinarySearchSaid := over
#print axioms proved
end Go.Proofs.Qxb6613500a.fnCompareStartBinarySearch
