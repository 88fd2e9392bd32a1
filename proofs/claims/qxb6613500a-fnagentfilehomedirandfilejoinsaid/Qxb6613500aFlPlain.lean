/-
  The two File laws: the plain part: lists of bytes alone, no Go in sight. 'cleanRel': what zzCleanRel computes; it is path.Clean on a path that does not begin with a slash.
-/
import Derived.Lib.CleanSame
import Derived.Lib.CleanLen
import Derived.Lib.JoinFns
namespace Go.Proofs.Qxb6613500a.Fl
open Go.Lib

/-- The segments kept, the first first, joined by slashes; none: a dot. -/
def relOut (xs : List (List UInt8)) : List UInt8 := if xs = [] then [46] else ([47] : List UInt8).intercalate xs

/-- What zzCleanRel computes. -/
def cleanRel (l : List UInt8) : List UInt8 := relOut ((Pa.els l).foldl (Pa.cleanStep false) []).reverse

theorem step_ne (st : List (List UInt8)) (e : List UInt8) (h : ∀ x ∈ st, x ≠ []) : ∀ x ∈ Pa.cleanStep false st e, x ≠ [] := by
  intro x hx
  unfold Pa.cleanStep at hx
  split at hx
  · exact h x hx
  · rename_i h1
    have he : e ≠ [] := fun c => h1 (.inl c)
    split at hx
    · split at hx
      · split at hx
        · rcases List.mem_cons.1 hx with rfl | hx
          · exact he
          · exact h x hx
        · exact h x (List.mem_cons_of_mem _ hx)
      · simp at hx
        subst hx
        exact he
    · rcases List.mem_cons.1 hx with rfl | hx
      · exact he
      · exact h x hx

theorem fold_ne : ∀ (es st : List (List UInt8)), (∀ x ∈ st, x ≠ []) → ∀ x ∈ es.foldl (Pa.cleanStep false) st, x ≠ []
  | [], _, h => h
  | e :: es, st, h => by
    rw [List.foldl_cons]
    exact fold_ne es _ (step_ne st e h)

theorem inter_ne (xs : List (List UInt8)) (h : xs ≠ []) (hne : ∀ x ∈ xs, x ≠ []) : ([47] : List UInt8).intercalate xs ≠ [] := by
  cases xs with
  | nil => exact absurd rfl h
  | cons a t =>
    have ha := hne a List.mem_cons_self
    cases a with
    | nil => exact absurd rfl ha
    | cons c s =>
      cases t with
      | nil => simp [List.intercalate]
      | cons b r => simp [List.intercalate]

/-- path.Clean of a path that does not begin with a slash. -/
theorem clean_eq (l : List UInt8) (hne : l ≠ []) (h : (l.head? == some 47) = false) : Pa.clean l = cleanRel l := by
  rw [Pa.clean_eq_cleanEls, Pa.cleanEls_rel l hne h]
  unfold cleanRel relOut
  have hf := fold_ne (Pa.els l) [] (by simp)
  by_cases e : (Pa.els l).foldl (Pa.cleanStep false) [] = []
  · rw [e]
    simp [List.intercalate]
  · rw [if_neg (inter_ne _ (by simpa using e) (fun x hx => hf x (by simpa using hx))), if_neg (by simpa using e)]

theorem els_ne : ∀ l : List UInt8, Pa.els l ≠ []
  | [] => by simp [Pa.els]
  | c :: t => by
    unfold Pa.els
    split
    · simp
    · split <;> simp

/-- A slash parts the elements. -/
theorem els_app : ∀ (a b : List UInt8), Pa.els (a ++ 47 :: b) = Pa.els a ++ Pa.els b
  | [], b => by rw [List.nil_append, Pa.els_slash]; rfl
  | c :: a, b => by
    have ih := els_app a b
    rw [List.cons_append]
    by_cases hc : c = 47
    · subst hc
      rw [Pa.els_slash, Pa.els_slash, ih, List.cons_append]
    · rw [Pa.els, if_neg hc, ih, Pa.els, if_neg hc]
      cases h : Pa.els a with
      | nil => exact absurd h (els_ne a)
      | cons e r => simp

/-- A slash more between two parts does not count. -/
theorem cleanRel_double (a b : List UInt8) : cleanRel (a ++ 47 :: 47 :: b) = cleanRel (a ++ 47 :: b) := by
  unfold cleanRel
  rw [els_app, els_app, Pa.els_slash, List.foldl_append, List.foldl_append, List.foldl_cons, Pa.step_nil]

/-- A slash at the end does not count. -/
theorem cleanRel_trail (a : List UInt8) : cleanRel (a ++ [47]) = cleanRel a := by
  unfold cleanRel
  rw [els_app, List.foldl_append]
  exact congrArg (fun S : List (List UInt8) => relOut S.reverse) (Pa.step_nil false _)

/-- ONE SEGMENT: from 's' on no slash till k; there a slash, or the path's end. -/
theorem seg_step (l : List UInt8) (s k : Nat) (st : List (List UInt8)) (hsk : s ≤ k) (hno : ∀ j, s ≤ j → j < k → ∃ c, l[j]? = some c ∧ c ≠ 47) (hk : k = l.length ∨ l[k]? = some 47) :
    (Pa.els (l.drop s)).foldl (Pa.cleanStep false) st = (Pa.els (l.drop (k + 1))).foldl (Pa.cleanStep false) (Pa.cleanStep false st ((l.drop s).take (k - s))) := by
  have hle : k ≤ l.length := by
    rcases hk with h | h
    · omega
    · exact Nat.le_of_lt (List.getElem?_eq_some_iff.1 h).1
  have h47 : 47 ∉ (l.drop s).take (k - s) := by
    intro hm
    obtain ⟨i, hi, he⟩ := List.getElem_of_mem hm
    have hi' : i < k - s := by
      rw [List.length_take] at hi
      omega
    obtain ⟨c, hc, hc7⟩ := hno (s + i) (by omega) (by omega)
    rw [List.getElem_take, List.getElem_drop] at he
    rw [List.getElem?_eq_getElem (by omega)] at hc
    rw [he] at hc
    exact hc7 (Option.some.inj hc).symm
  have hsplit : l.drop s = (l.drop s).take (k - s) ++ l.drop k := by
    have h1 := List.take_append_drop (k - s) (l.drop s)
    rw [List.drop_drop, show s + (k - s) = k by omega] at h1
    exact h1.symm
  have hel := Pa.els_elem ((l.drop s).take (k - s)) (l.drop k) h47 (Pa.rest_of l k hk)
  rw [← hsplit] at hel
  rw [hel, List.foldl_cons]
  generalize Pa.cleanStep false st ((l.drop s).take (k - s)) = S
  rcases hk with h | h
  · have h1 : l.drop k = [] := List.drop_eq_nil_of_le (by omega)
    have h2 : l.drop (k + 1) = [] := List.drop_eq_nil_of_le (by omega)
    rw [h1, h2]
    show S = Pa.cleanStep false S []
    rw [Pa.step_nil]
  · have hlt := (List.getElem?_eq_some_iff.1 h).1
    have h1 : l.drop k = 47 :: l.drop (k + 1) := by
      rw [List.drop_eq_getElem_cons hlt, (List.getElem?_eq_some_iff.1 h).2]
    rw [h1]
    rfl

end Go.Proofs.Qxb6613500a.Fl
