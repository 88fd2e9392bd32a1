/-
  zzCleanRel: what its first loop's rounds do to the stack and to the place ('Rel'), and what its second loop gathers ('upTo'): lemmas outside the walk.
-/
import Derived.Test.Qxb6613500aFlPlain
import Derived.WalkKit
import Derived.WalkSmall
import Derived.Lib.AppendStr
import Derived.Lib.Strings
import Derived.Laws.BytesArg
import Derived.Lib.LazyBuf
namespace Go.Proofs.Qxb6613500a.Fl
open Go.RowKit Go.Lib

/-- What holds of the stack and the place at each round's head: 's' the segment's start, 'k' the place, 'xs' the stack. -/
def Rel (p : ByteArray) (w wr : World) (v : Value) (s k : Nat) (xs : List ByteArray) : Prop :=
  Below w.heap.size w wr ∧ wr.ownsRow w.heap.size 9 1 v xs.length (xs.map Value.string) ∧ xs.length ≤ k ∧ (∀ x ∈ xs, x.size ≤ p.size) ∧
  (∀ j, s ≤ j → j < k → ∃ c, p.data.toList[j]? = some c ∧ c ≠ 47) ∧
  (Pa.els (p.data.toList.drop s)).foldl (Pa.cleanStep false) (xs.map (·.data.toList)).reverse = (Pa.els p.data.toList).foldl (Pa.cleanStep false) []

theorem Rel.start (p : ByteArray) (w : World) : Rel p w w (.slice none 0 0) 0 0 [] :=
  ⟨Below.refl _ _, World.ownsRow_nil _ _ _ _, Nat.le_refl _, by simp, fun j h1 h2 => by omega, rfl⟩

theorem get_at (p : ByteArray) (k : Nat) (h : k < p.size) : p.data.toList[k]? = some p[k] := by
  rw [List.getElem?_eq_getElem (by simpa using h)]
  rfl

theorem seg_list (p : ByteArray) (s k : Nat) : (p.extract s k).data.toList = (p.data.toList.drop s).take (k - s) := by
  rw [← Lib.toList_data, Lib.extract_toList]

theorem seg_size (p : ByteArray) (s k : Nat) : (p.extract s k).size ≤ p.size := by
  rw [Lib.size_eq, seg_list, Lib.size_eq, List.length_take, List.length_drop]
  omega

/-- No slash here: on. -/
theorem Rel.on {p : ByteArray} {w wr : World} {v : Value} {s k : Nat} {xs : List ByteArray} (h : Rel p w wr v s k xs) (hk : k < p.size) (hc : p[k] ≠ 47) : Rel p w wr v s (k + 1) xs := by
  obtain ⟨h1, h2, h3, h4, h5, h6⟩ := h
  refine ⟨h1, h2, by omega, h4, fun j ha hb => ?_, h6⟩
  by_cases e : j = k
  · subst e
    exact ⟨p[j], get_at p j hk, hc⟩
  · exact h5 j ha (by omega)

/-- A segment ends here: whatever the round makes of the stack. -/
theorem Rel.seg {p : ByteArray} {w wr : World} {v : Value} {s k : Nat} {xs : List ByteArray} (h : Rel p w wr v s k xs) (hsk : s ≤ k) (hbd : k = p.size ∨ p.data.toList[k]? = some 47)
    {w' : World} {v' : Value} {xs' : List ByteArray} (hB : Below w.heap.size w w') (ho : w'.ownsRow w.heap.size 9 1 v' xs'.length (xs'.map Value.string)) (hl : xs'.length ≤ xs.length + 1) (hs : ∀ x ∈ xs', x.size ≤ p.size)
    (hst : (xs'.map (·.data.toList)).reverse = Pa.cleanStep false (xs.map (·.data.toList)).reverse (p.extract s k).data.toList) : Rel p w w' v' (k + 1) (k + 1) xs' := by
  obtain ⟨h1, h2, h3, h4, h5, h6⟩ := h
  refine ⟨hB, ho, by omega, hs, fun j ha hb => by omega, ?_⟩
  have := seg_step p.data.toList s k (xs.map (·.data.toList)).reverse hsk h5 (by rw [← Lib.size_eq]; exact hbd)
  rw [hst, seg_list, ← this]
  exact h6

/-- An empty segment or a dot: it goes. -/
theorem Rel.skip {p : ByteArray} {w wr : World} {v : Value} {s k : Nat} {xs : List ByteArray} (h : Rel p w wr v s k xs) (hsk : s ≤ k) (hbd : k = p.size ∨ p.data.toList[k]? = some 47)
    (he : (p.extract s k).data.toList = [] ∨ (p.extract s k).data.toList = [46]) : Rel p w wr v (k + 1) (k + 1) xs := by
  refine h.seg hsk hbd h.1 h.2.1 (by omega) h.2.2.2.1 ?_
  rcases he with he | he
  · rw [he, Pa.step_nil]
  · rw [he, Pa.step_dot]

theorem step_pop (x : List UInt8) (r : List (List UInt8)) (h : x ≠ [46, 46]) : Pa.cleanStep false (x :: r) [46, 46] = r := by
  simp [Pa.cleanStep, h]
theorem step_top (r : List (List UInt8)) : Pa.cleanStep false ([46, 46] :: r) [46, 46] = [46, 46] :: [46, 46] :: r := by
  simp [Pa.cleanStep]
theorem step_bare : Pa.cleanStep false [] [46, 46] = [[46, 46]] := by
  simp [Pa.cleanStep]

/-- '..' takes the last segment back. -/
theorem Rel.pop {p : ByteArray} {w wr : World} {g cap s k : Nat} {xs : List ByteArray} {y : ByteArray} (h : Rel p w wr (.slice (some ⟨g, 0, none⟩) (xs.length + 1) cap) s k (xs ++ [y])) (hsk : s ≤ k) (hbd : k = p.size ∨ p.data.toList[k]? = some 47)
    (he : (p.extract s k).data.toList = [46, 46]) (hy : y.data.toList ≠ [46, 46]) : Rel p w wr (.slice (some ⟨g, 0, none⟩) xs.length cap) (k + 1) (k + 1) xs := by
  have ho := h.2.1
  rw [List.length_append, List.length_singleton, List.map_append] at ho
  refine h.seg hsk hbd h.1 (ownsRow_pop (by simp) ho) (by simp; omega) (fun x hx => h.2.2.2.1 x (List.mem_append_left _ hx)) ?_
  rw [he, List.map_append, List.reverse_append]
  show _ = Pa.cleanStep false (y.data.toList :: _) _
  rw [step_pop _ _ hy]
  rfl

/-- What is kept is pushed: 'append' has been carried out. -/
theorem Rel.push {p : ByteArray} {w wr : World} {v : Value} {s k : Nat} {xs : List ByteArray} (h : Rel p w wr v s k xs) (hsk : s ≤ k) (hbd : k = p.size ∨ p.data.toList[k]? = some 47)
    {w' : World} {v' : Value} {o : Obj} (ho : w'.ownsRow w.heap.size 9 1 v' (xs.length + 1) (xs.map Value.string ++ [.string (p.extract s k)])) (hg : (wr.alloc o).grownBy w' v.ownBlock)
    (hst : (p.extract s k).data.toList :: (xs.map (·.data.toList)).reverse = Pa.cleanStep false (xs.map (·.data.toList)).reverse (p.extract s k).data.toList) :
    ∃ ao cap, v' = .slice ao (xs ++ [p.extract s k]).length cap ∧ Rel p w w' (.slice ao (xs ++ [p.extract s k]).length cap) (k + 1) (k + 1) (xs ++ [p.extract s k]) := by
  have hform : ∃ ao cap, v' = .slice ao (xs ++ [p.extract s k]).length cap := by
    rcases ho.2 with ⟨_, h0⟩ | ⟨g, cap, _, hv, _⟩
    · omega
    · exact ⟨some ⟨g, 0, none⟩, cap, by rw [hv]; simp⟩
  obtain ⟨ao, cap, rfl⟩ := hform
  refine ⟨ao, cap, rfl, h.seg hsk hbd ?_ ?_ (by simp) ?_ ?_⟩
  · exact (h.1.alloc h.1.size o).grown hg (by have := h.1.size; simp; omega) (fun j hj => (h.2.1.lt j hj).1)
  · simpa using ho
  · intro x hx
    rcases List.mem_append.1 hx with hx | hx
    · exact h.2.2.2.1 x hx
    · simp at hx
      subst hx
      exact seg_size p s k
  · rw [← hst]
    simp

/-- Behind the loop: the stack is what the fold over all elements gives. -/
theorem Rel.done {p : ByteArray} {w wr : World} {v : Value} {s : Nat} {xs : List ByteArray} (h : Rel p w wr v s (p.size + 1) xs) (hs : s ≤ p.size + 1) : cleanRel p.data.toList = relOut (xs.map (·.data.toList)) := by
  obtain ⟨h1, h2, h3, h4, h5, h6⟩ := h
  have hs' : s = p.size + 1 := by
    by_cases e : s ≤ p.size
    · obtain ⟨c, hc, _⟩ := h5 p.size e (by omega)
      have := (List.getElem?_eq_some_iff.1 hc).1
      rw [← Lib.size_eq] at this
      omega
    · omega
  rw [List.drop_eq_nil_of_le (by rw [← Lib.size_eq]; omega)] at h6
  have h7 : (Pa.els p.data.toList).foldl (Pa.cleanStep false) [] = (xs.map (·.data.toList)).reverse := h6.symm.trans (Pa.step_nil false _)
  unfold cleanRel
  rw [h7, List.reverse_reverse]

/-! ### The second loop -/

/-- What has been gathered of the first segments. -/
def upTo (xs : List ByteArray) : List UInt8 := ([47] : List UInt8).intercalate (xs.map (·.data.toList))

theorem upTo_nil : upTo [] = [] := by simp [upTo, List.intercalate]
theorem upTo_one (x : ByteArray) : upTo [x] = x.data.toList := by simp [upTo, List.intercalate]
theorem upTo_snoc (xs : List ByteArray) (x : ByteArray) (h : xs ≠ []) : upTo (xs ++ [x]) = upTo xs ++ 47 :: x.data.toList := by
  unfold upTo
  rw [List.map_append]
  exact Pa.inter_snoc _ _ (by simpa using h)

/-- A byte's cell. -/
def cellsB (l : List UInt8) : List Value := l.map fun c => Value.int .u8 c.toNat
theorem cellsB_app (a b : List UInt8) : cellsB (a ++ b) = cellsB a ++ cellsB b := by simp [cellsB]
theorem cellsB_len (a : List UInt8) : (cellsB a).length = a.length := by simp [cellsB]
theorem strCells_eq (s : ByteArray) : Lib.strCells s = cellsB s.data.toList := rfl

/-- How long it may be: each of j segments has at most N bytes. -/
theorem upTo_len (N : Nat) : ∀ xs : List ByteArray, (∀ x ∈ xs, x.size ≤ N) → (upTo xs).length ≤ xs.length * (N + 1) := by
  intro xs
  generalize hn : xs.length = n
  induction n generalizing xs with
  | zero =>
    intro _
    have : xs = [] := List.eq_nil_of_length_eq_zero hn
    subst this
    rw [upTo_nil]
    simp
  | succ n ih =>
    intro h
    obtain ⟨ys, y, rfl⟩ : ∃ ys y, xs = ys ++ [y] := ⟨xs.dropLast, xs.getLast (by intro e; subst e; simp at hn), (List.dropLast_concat_getLast _).symm⟩
    have hl : ys.length = n := by simp at hn; omega
    have h1 := ih ys hl (fun x hx => h x (List.mem_append_left _ hx))
    have h2 := h y (by simp)
    rw [Lib.size_eq] at h2
    rw [Nat.add_mul, Nat.one_mul]
    by_cases e : ys = []
    · subst e
      rw [List.nil_append, upTo_one]
      omega
    · rw [upTo_snoc _ _ e, List.length_append, List.length_cons]
      omega

theorem upTo_succ (xs : List ByteArray) (j : Nat) (x : ByteArray) (h : xs[j]? = some x) (hj : 0 < j) : upTo (xs.take (j + 1)) = upTo (xs.take j) ++ 47 :: x.data.toList := by
  have hl := (List.getElem?_eq_some_iff.1 h).1
  rw [List.take_add_one, h]
  refine upTo_snoc _ _ ?_
  intro e
  have := congrArg List.length e
  rw [List.length_take, List.length_nil] at this
  omega

theorem upTo_first (xs : List ByteArray) (x : ByteArray) (h : xs[0]? = some x) : upTo (xs.take 1) = x.data.toList := by
  rw [List.take_add_one, h]
  exact upTo_one x

/-- What owns the bytes shows what it is. -/
theorem out_form {w : World} {B m : Nat} {v : Value} {b : List UInt8} (h : w.ownsRow B 5 1 v m (cellsB b)) : m = b.length ∧ ∃ ao cap, v = .slice ao m cap := by
  have h1 := h.1
  rw [cellsB_len, Nat.mul_one] at h1
  refine ⟨h1.symm, ?_⟩
  rcases h.2 with ⟨hv, h0⟩ | ⟨g, cap, _, hv, _⟩
  · exact ⟨none, 0, by rw [hv, h0]⟩
  · exact ⟨some ⟨g, 0, none⟩, cap, hv⟩

/-- The bytes, as a string. -/
theorem out_string {P : Program} {w : World} {B m cap : Nat} {ao : Option Addr} {b : List UInt8} (h : w.ownsRow B 5 1 (.slice ao m cap) m (cellsB b)) (src dst : TypeId)
    (hs : P.underlying src = some (.slice 5)) (he : P.underlying 5 = some (.int .u8)) (hd : P.underlying dst = some .string) :
    (convert src dst (.slice ao m cap)).run P w = .ok (.string ⟨b.toArray⟩) w := by
  have hm := (out_form h).1
  have ho := h.2
  rcases ho with ⟨hv, h0⟩ | ⟨g, cap', _, hv, _⟩
  · simp at hv
    obtain ⟨rfl, rfl, rfl⟩ := hv
    have hb : b = [] := List.eq_nil_of_length_eq_zero hm.symm
    subst hb
    exact run_convert_bytes_nil (P := P) w src 5 hs he 0 0 dst hd
  · simp at hv
    obtain ⟨rfl, rfl⟩ := hv
    have g1 := run_convert_bytes_arg (P := P) w src 5 hs he g 0 m cap (b.map fun c => (c.toNat : Int)) (by rw [List.length_map]; exact hm.symm) (fun i hi => by
      rw [Nat.zero_add, h.cellAt i (by omega), Lz.getD_map]
      rw [hm] at hi
      simp [cellsB, hi]) dst hd
    rw [Lz.strOfNums_map] at g1
    exact g1

end Go.Proofs.Qxb6613500a.Fl
