/-
  The two File laws: the contracts of ZZnewAgent (function 7), path.Join at two and three elements (function 13), Agent.File (function 8), and zzCleanRel (function 9) at the strings that the laws hand it.
-/
import Derived.Test.Qxb6613500aRows
import Derived.Test.Qxb6613500aFlShelf
import Derived.Test.Qxb6613500aFlRel
import Derived.WalkKit
import Derived.WalkSmall
import Derived.Laws.EntriesVeiled
namespace Go.Proofs.Qxb6613500a.Fl
open Go.RowKit Go.Lib

/-! ### Plain -/

/-- A list of bytes as a string. -/
def bs (l : List UInt8) : ByteArray := ⟨l.toArray⟩
theorem bs_size (l : List UInt8) : (bs l).size = l.length := by
  rw [Lib.size_eq]
  rfl

/-- What File says of the home directory, of the variable. -/
def homeOf (h f : List UInt8) : List UInt8 := cleanRel (126 :: 47 :: (h ++ 47 :: f))
def envOf (d f : List UInt8) : List UInt8 := cleanRel (36 :: (d ++ 47 :: f))

theorem joinL_home (h f : List UInt8) : Pa.joinL [[126], h, f] = homeOf h f := by
  have hb : Pa.joinBuf [[126], h, f] = 126 :: 47 :: (h ++ 47 :: f) := by simp [Pa.joinBuf, Pa.joinStep]
  rw [Pa.joinL, hb, if_neg (by simp)]
  exact clean_eq _ (by simp) (by simp)

theorem joinL_env (d f : List UInt8) : Pa.joinL [36 :: d, f] = envOf d f := by
  have hb : Pa.joinBuf [36 :: d, f] = 36 :: (d ++ 47 :: f) := by simp [Pa.joinBuf, Pa.joinStep]
  rw [Pa.joinL, hb, if_neg (by simp)]
  exact clean_eq _ (by simp) (by simp)

theorem homeOf_len (h f : List UInt8) : (homeOf h f).length ≤ h.length + f.length + 3 := by
  have h1 := Pa.clean_length_le (l := 126 :: 47 :: (h ++ 47 :: f)) (by simp)
  rw [clean_eq _ (by simp) (by simp)] at h1
  simp at h1
  unfold homeOf
  omega

theorem envOf_len (d f : List UInt8) : (envOf d f).length ≤ d.length + f.length + 2 := by
  have h1 := Pa.clean_length_le (l := 36 :: (d ++ 47 :: f)) (by simp)
  rw [clean_eq _ (by simp) (by simp)] at h1
  simp at h1
  unfold envOf
  omega

theorem home_size (h f : ByteArray) (a : h.size ≤ 300000) (b : f.size ≤ 300000) : (bs (homeOf h.data.toList f.data.toList)).size ≤ 600003 := by
  have := homeOf_len h.data.toList f.data.toList
  rw [Lib.size_eq] at a b
  rw [bs_size]
  omega

theorem env_size (d f : ByteArray) (a : d.size ≤ 300000) (b : f.size ≤ 300000) : (bs (envOf d.data.toList f.data.toList)).size ≤ 600003 := by
  have := envOf_len d.data.toList f.data.toList
  rw [Lib.size_eq] at a b
  rw [bs_size]
  omega

/-- All of the path in file; all of it in homeDir. -/
theorem home_file (h f : List UInt8) : homeOf [] (h ++ 47 :: f) = homeOf h f := cleanRel_double [126] (h ++ 47 :: f)
theorem home_dir (h f : List UInt8) : homeOf (h ++ 47 :: f) [] = homeOf h f := by
  unfold homeOf
  have := cleanRel_trail (126 :: 47 :: (h ++ 47 :: f))
  simpa using this

theorem empty_yes : (⟨#[]⟩ : ByteArray).toList.isEmpty = true := by
  rw [Lib.toList_data]
  rfl

/-! ### Contracts -/

set_option maxHeartbeats 400000 in
theorem new_any (d h f : ByteArray) (w : World) :
    Calls Try.prog 7 #[.string d, .string h, .string f] w fun e w' => e = .returned (.agg #[.string ⟨#[]⟩, .string d, .string h, .string f, .nilIface, .nilFunc]) ∧ Below w.heap.size w w' := by
  go_enter Try.func7, Try.ntmps7
  go_wp2
  exact bodyPost_ret (v := .agg #[.string ⟨#[]⟩, .string d, .string h, .string f, .nilIface, .nilFunc]) (by simp [results, Try.results7, go_sem]) rfl ⟨rfl, (Below.refl _ _).alloc (Nat.le_refl _) _⟩

/-- path.Join of a tilde, h and f. -/
theorem join_home (bk : Nat) (h f : ByteArray) (w : World) (h0 : w.cell? ⟨bk, 0, none⟩ = some (.string ⟨#[126]⟩)) (h1 : w.cell? ⟨bk, 1, none⟩ = some (.string h)) (h2 : w.cell? ⟨bk, 2, none⟩ = some (.string f)) (hbk : bk < w.heap.size)
    (hh : h.size ≤ 300000) (hf : f.size ≤ 300000) :
    Calls Try.prog 13 #[.slice (some ⟨bk, 0, none⟩) 3 3] w fun e w' => e = .returned (.string (bs (homeOf h.data.toList f.data.toList))) ∧ Below w.heap.size w w' := by
  rw [← joinL_home]
  refine path_Join bk 0 3 [⟨#[126]⟩, h, f] w ?_ hbk ?_
  · intro j x hj
    rw [Nat.zero_add]
    match j, hj with
    | 0, hj => simp at hj; subst hj; exact h0
    | 1, hj => simp at hj; subst hj; exact h1
    | 2, hj => simp at hj; subst hj; exact h2
    | j + 3, hj => simp at hj
  · simp [Pa.lens]
    omega

/-- path.Join of the variable (a dollar sign and d) and f. -/
theorem join_env (bk : Nat) (d f : ByteArray) (w : World) (h0 : w.cell? ⟨bk, 0, none⟩ = some (.string (⟨#[36]⟩ ++ d))) (h1 : w.cell? ⟨bk, 1, none⟩ = some (.string f)) (hbk : bk < w.heap.size)
    (hd : d.size ≤ 300000) (hf : f.size ≤ 300000) :
    Calls Try.prog 13 #[.slice (some ⟨bk, 0, none⟩) 2 2] w fun e w' => e = .returned (.string (bs (envOf d.data.toList f.data.toList))) ∧ Below w.heap.size w w' := by
  have hl : (⟨#[36]⟩ ++ d : ByteArray).data.toList = 36 :: d.data.toList := by simp
  have hc := path_Join bk 0 2 [⟨#[36]⟩ ++ d, f] w (fun j x hj => by
    rw [Nat.zero_add]
    match j, hj with
    | 0, hj => simp at hj; subst hj; exact h0
    | 1, hj => simp at hj; subst hj; exact h1
    | j + 2, hj => simp at hj) hbk (by
    simp [Pa.lens]
    omega)
  simp only [List.map_cons, List.map_nil, hl, joinL_env] at hc
  exact hc

set_option maxHeartbeats 400000 in
/-- File of an agent without a variable. -/
theorem file_home (a0 d h f : ByteArray) (x y : Value) (w : World) (hh : h.size ≤ 300000) (hf : f.size ≤ 300000) (te : d.toList.isEmpty = true) :
    Calls Try.prog 8 #[.agg #[.string a0, .string d, .string h, .string f, x, y]] w fun e w' => e = .returned (.string (bs (homeOf h.data.toList f.data.toList))) ∧ Below w.heap.size w w' := by
  go_enter Try.func8, Try.ntmps8
  go_wp2_with fail
  refine (join_home _ h f _ (by simp) (by simp) (by simp) (by simp) hh hf).mono ?_
  rintro e w1 ⟨rfl, hb1⟩
  have c1 : w1.cell? ⟨w.heap.size, 1, none⟩ = some (.string d) := (hb1.cell (p := ⟨w.heap.size, 1, none⟩) (by simp; omega)).trans (by simp)
  have HB : Hid (Below w.heap.size w w1) := (((Below.refl _ _).alloc (Nat.le_refl _) _).alloc (by simp) _).trans (hb1.mono (by simp; omega))
  clear hb1
  go_wp2
  go_ret
  exact ⟨rfl, HB.out⟩

set_option maxHeartbeats 400000 in
/-- File of an agent with a variable. -/
theorem file_env (a0 d h f : ByteArray) (x y : Value) (w : World) (hd : d.size ≤ 300000) (hh : h.size ≤ 300000) (hf : f.size ≤ 300000) (te : d.toList.isEmpty = false) :
    Calls Try.prog 8 #[.agg #[.string a0, .string d, .string h, .string f, x, y]] w fun e w' => e = .returned (.string (bs (envOf d.data.toList f.data.toList) ++ ⟨#[44, 32, 101, 108, 115, 101, 32]⟩ ++ bs (homeOf h.data.toList f.data.toList))) ∧ Below w.heap.size w w' := by
  have s1 := home_size h f hh hf
  have s2 := env_size d f hd hf
  go_enter Try.func8, Try.ntmps8
  go_wp2_with fail
  refine (join_home _ h f _ (by simp) (by simp) (by simp) (by simp) hh hf).mono ?_
  rintro e w1 ⟨rfl, hb1⟩
  have c1 : w1.cell? ⟨w.heap.size, 1, none⟩ = some (.string d) := (hb1.cell (p := ⟨w.heap.size, 1, none⟩) (by simp; omega)).trans (by simp)
  have c3 : w1.cell? ⟨w.heap.size, 3, none⟩ = some (.string f) := (hb1.cell (p := ⟨w.heap.size, 3, none⟩) (by simp; omega)).trans (by simp)
  have HB : Hid (Below w.heap.size w w1) := (((Below.refl _ _).alloc (Nat.le_refl _) _).alloc (by simp) _).trans (hb1.mono (by simp; omega))
  clear hb1
  go_wp2_with fail
  refine (join_env _ d f _ (by simp) (by simp) (by simp) hd hf).mono ?_
  rintro e w2 ⟨rfl, hb2⟩
  have HB2 : Hid (Below w.heap.size w w2) := HB.out.trans (((Below.refl _ _).alloc HB.out.size _).trans (hb2.mono (by have := HB.out.size; simp; omega)))
  clear hb2
  go_wp2
  go_ret
  exact ⟨rfl, HB2.out⟩

/-- zzCleanRel of the home path. -/
theorem rel_home (h f : ByteArray) (w : World) (hh : h.size ≤ 100000) (hf : f.size ≤ 100000) :
    Calls Try.prog 9 #[.string (⟨#[126, 47]⟩ ++ h ++ ⟨#[47]⟩ ++ f)] w fun e w' => e = .returned (.string (bs (homeOf h.data.toList f.data.toList))) ∧ Below w.heap.size w w' := by
  have hl : (⟨#[126, 47]⟩ ++ h ++ ⟨#[47]⟩ ++ f : ByteArray).data.toList = 126 :: 47 :: (h.data.toList ++ 47 :: f.data.toList) := by simp
  have hc := rel_any (⟨#[126, 47]⟩ ++ h ++ ⟨#[47]⟩ ++ f) w (by rw [Lib.size_eq, hl]; rw [Lib.size_eq] at hh hf; simp at hh hf ⊢; omega)
  rw [hl] at hc
  exact hc

/-- zzCleanRel of the path under the variable. -/
theorem rel_env (d f : ByteArray) (w : World) (hd : d.size ≤ 100000) (hf : f.size ≤ 100000) :
    Calls Try.prog 9 #[.string (⟨#[36]⟩ ++ d ++ ⟨#[47]⟩ ++ f)] w fun e w' => e = .returned (.string (bs (envOf d.data.toList f.data.toList))) ∧ Below w.heap.size w w' := by
  have hl : (⟨#[36]⟩ ++ d ++ ⟨#[47]⟩ ++ f : ByteArray).data.toList = 36 :: (d.data.toList ++ 47 :: f.data.toList) := by simp
  have hc := rel_any (⟨#[36]⟩ ++ d ++ ⟨#[47]⟩ ++ f) w (by rw [Lib.size_eq, hl]; rw [Lib.size_eq] at hd hf; simp at hd hf ⊢; omega)
  rw [hl] at hc
  exact hc

/-- File where all of the path lies in file. -/
theorem file_in_file (a0 h f : ByteArray) (x y : Value) (w : World) (hh : h.size ≤ 100000) (hf : f.size ≤ 100000) :
    Calls Try.prog 8 #[.agg #[.string a0, .string ⟨#[]⟩, .string ⟨#[]⟩, .string (h ++ ⟨#[47]⟩ ++ f), x, y]] w fun e w' => e = .returned (.string (bs (homeOf h.data.toList f.data.toList))) ∧ Below w.heap.size w w' := by
  have hl : (h ++ ⟨#[47]⟩ ++ f : ByteArray).data.toList = h.data.toList ++ 47 :: f.data.toList := by simp
  have hc := file_home a0 ⟨#[]⟩ ⟨#[]⟩ (h ++ ⟨#[47]⟩ ++ f) x y w (by decide) (by rw [Lib.size_eq, hl]; rw [Lib.size_eq] at hh hf; simp at hh hf ⊢; omega) empty_yes
  rw [hl] at hc
  rw [← home_file]
  exact hc

/-- File where all of the path lies in homeDir. -/
theorem file_in_dir (a0 h f : ByteArray) (x y : Value) (w : World) (hh : h.size ≤ 100000) (hf : f.size ≤ 100000) :
    Calls Try.prog 8 #[.agg #[.string a0, .string ⟨#[]⟩, .string (h ++ ⟨#[47]⟩ ++ f), .string ⟨#[]⟩, x, y]] w fun e w' => e = .returned (.string (bs (homeOf h.data.toList f.data.toList))) ∧ Below w.heap.size w w' := by
  have hl : (h ++ ⟨#[47]⟩ ++ f : ByteArray).data.toList = h.data.toList ++ 47 :: f.data.toList := by simp
  have hc := file_home a0 ⟨#[]⟩ (h ++ ⟨#[47]⟩ ++ f) ⟨#[]⟩ x y w (by rw [Lib.size_eq, hl]; rw [Lib.size_eq] at hh hf; simp at hh hf ⊢; omega) (by decide) empty_yes
  rw [hl] at hc
  rw [← home_dir]
  exact hc

end Go.Proofs.Qxb6613500a.Fl
