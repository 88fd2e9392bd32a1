/-
  FnAgentFileHomeDirAndFileJoin (function 4): the walk, over the contracts of Qxb6613500aFlFile.lean.
-/
import Derived.Test.Qxb6613500aFlFile
namespace Go.Proofs.Qxb6613500a.Fl
open Go.RowKit Go.Lib

/-- zzBytes of FnAgentFileHomeDirAndFileJoin (function 10) returns. -/
theorem bytes2_any (h f : ByteArray) (hh : h.size ≤ maxLen) (hf : f.size ≤ maxLen) (w : World) :
    Calls Try.prog 10 #[.string h, .string f] w fun e w' => (∃ b, e = .returned (.bool b) ∧ (h.size + f.size ≤ 1048576 → b = true)) ∧ w' = w := by
  unfold maxLen at hh hf
  by_cases h1 : 1048576 < h.size
  · have h1' : (1048576 : Int) < (h.size : Int) := by omega
    go_enter Try.func10, Try.ntmps10
    go_wp2
    go_ret
    exact ⟨⟨false, rfl, fun _ => by omega⟩, rfl⟩
  by_cases h2 : 1048576 < f.size
  · have h1' : (h.size : Int) ≤ 1048576 := by omega
    have h2' : (1048576 : Int) < (f.size : Int) := by omega
    go_enter Try.func10, Try.ntmps10
    go_wp2
    go_ret
    exact ⟨⟨false, rfl, fun _ => by omega⟩, rfl⟩
  have h1' : (h.size : Int) ≤ 1048576 := by omega
  have h2' : (f.size : Int) ≤ 1048576 := by omega
  by_cases h3 : 1048576 < h.size + f.size
  · have h3' : (1048576 : Int) < (h.size : Int) + (f.size : Int) := by omega
    go_enter Try.func10, Try.ntmps10
    go_wp2
    go_ret
    exact ⟨⟨false, rfl, fun _ => by omega⟩, rfl⟩
  · have h3' : (h.size : Int) + (f.size : Int) ≤ 1048576 := by omega
    go_enter Try.func10, Try.ntmps10
    go_wp2
    go_ret
    exact ⟨⟨true, rfl, fun _ => rfl⟩, rfl⟩

set_option maxHeartbeats 1000000 in
theorem walk2 (h f : ByteArray) (wh : h.size ≤ maxLen) (wf : f.size ≤ maxLen) (w : World) :
    Calls Try.prog 4 #[.string h, .string f] w fun e w' => e = .returned (.bool true) ∧ Below w.heap.size w w' := by
  by_cases hok : h.size ≤ 65536 ∧ f.size ≤ 65536
  · obtain ⟨hh, hf⟩ := hok
    have hh' : (h.size : Int) ≤ 65536 := by omega
    have hf' : (f.size : Int) ≤ 65536 := by omega
    have s1 := home_size h f (by omega) (by omega)
    go_enter Try.func4, Try.ntmps4
    go_wp2_with fail
    refine (bytes2_any h f wh wf _).mono ?_
    rintro e w0 ⟨⟨b, rfl, hb⟩, hw⟩
    subst w0
    obtain rfl := hb (by omega)
    clear hb
    go_wp2_with fail
    refine (new_any _ _ _ _).mono ?_
    rintro e w1 ⟨rfl, hb1⟩
    have HB1 : Hid (Below w.heap.size w w1) := hb1
    clear hb1
    go_wp2_with fail
    refine (file_home _ _ h f _ _ _ (by omega) (by omega) empty_yes).mono ?_
    rintro e w2 ⟨rfl, hb2⟩
    have HB2 : Hid (Below w.heap.size w w2) := HB1.out.trans (hb2.mono HB1.out.size)
    clear hb2 HB1
    go_wp2_with fail
    refine (new_any _ _ _ _).mono ?_
    rintro e w3 ⟨rfl, hb3⟩
    have HB3 : Hid (Below w.heap.size w w3) := HB2.out.trans (hb3.mono HB2.out.size)
    clear hb3 HB2
    go_wp2_with fail
    refine (file_in_file _ h f _ _ _ (by omega) (by omega)).mono ?_
    rintro e w4 ⟨rfl, hb4⟩
    have HB4 : Hid (Below w.heap.size w w4) := HB3.out.trans (hb4.mono HB3.out.size)
    clear hb4 HB3
    go_wp2_with fail
    refine (new_any _ _ _ _).mono ?_
    rintro e w5 ⟨rfl, hb5⟩
    have HB5 : Hid (Below w.heap.size w w5) := HB4.out.trans (hb5.mono HB4.out.size)
    clear hb5 HB4
    go_wp2_with fail
    refine (file_in_dir _ h f _ _ _ (by omega) (by omega)).mono ?_
    rintro e w6 ⟨rfl, hb6⟩
    have HB6 : Hid (Below w.heap.size w w6) := HB5.out.trans (hb6.mono HB5.out.size)
    clear hb6 HB5
    go_wp2_with fail
    refine (rel_home h f _ (by omega) (by omega)).mono ?_
    rintro e w7 ⟨rfl, hb7⟩
    have HB7 : Hid (Below w.heap.size w w7) := HB6.out.trans (hb7.mono HB6.out.size)
    clear hb7 HB6
    go_wp2
    go_ret
    exact ⟨rfl, HB7.out⟩
  · by_cases hh : 65536 < h.size
    · have hh' : (65536 : Int) < (h.size : Int) := by omega
      go_enter Try.func4, Try.ntmps4
      go_wp2_with fail
      refine (bytes2_any h f wh wf _).mono ?_
      rintro e w0 ⟨⟨b, rfl, hb⟩, hw⟩
      subst w0
      clear hb
      cases b
      all_goals
        go_wp2
        go_ret
        exact ⟨rfl, Below.refl _ _⟩
    · have hh' : (h.size : Int) ≤ 65536 := by omega
      have hf' : (65536 : Int) < (f.size : Int) := by omega
      go_enter Try.func4, Try.ntmps4
      go_wp2_with fail
      refine (bytes2_any h f wh wf _).mono ?_
      rintro e w0 ⟨⟨b, rfl, hb⟩, hw⟩
      subst w0
      clear hb
      cases b
      all_goals
        go_wp2
        go_ret
        exact ⟨rfl, Below.refl _ _⟩

end Go.Proofs.Qxb6613500a.Fl
