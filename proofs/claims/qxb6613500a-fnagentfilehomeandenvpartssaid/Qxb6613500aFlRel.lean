/-
  zzCleanRel (function 9): the walk: it returns 'cleanRel' of its bytes, in new memory alone.
-/
import Derived.Test.Qxb6613500aRows
import Derived.Test.Qxb6613500aFlSteps
namespace Go.Proofs.Qxb6613500a.Fl
open Go.RowKit Go.Lib

theorem info9 : (Try.prog.info? 9).map (fun i => (i.zero, i.size, i.bytes)) = some (some (.string ByteArray.empty), 1, 16) := by kernel_rfl
theorem info5 : (Try.prog.info? 5).map (fun i => (i.zero, i.size, i.bytes)) = some (some (.int .u8 0), 1, 1) := by kernel_rfl

theorem one_at (w : World) (t : TypeId) (u : Value) : ∀ j x, [u][j]? = some x → (w.alloc (.cells #[u] t)).cell? ((⟨w.heap.size, 0, none⟩ : Addr).add j) = some x := by
  intro j x hj
  match j, hj with
  | 0, hj => simp at hj; subst hj; simp [Addr.add]
  | j + 1, hj => simp at hj
theorem one_str (s : ByteArray) : ∀ u ∈ [Value.string s], u.oneCell' = true := by
  intro u hu
  simp at hu
  subst hu
  rfl
theorem one_int (n : Int) : ∀ u ∈ [Value.int .u8 n], u.oneCell' = true := by
  intro u hu
  simp at hu
  subst hu
  rfl
theorem row_form {w : World} {B e s n : Nat} {v : Value} {xs : List Value} (h : w.ownsRow B e s v (n + 1) xs) : ∃ ao cap, v = .slice ao (n + 1) cap := by
  rcases h.2 with ⟨_, h0⟩ | ⟨g, cap, _, hv, _⟩
  · omega
  · exact ⟨_, cap, hv⟩

set_option maxHeartbeats 4000000 in
theorem rel_any (p : ByteArray) (w : World) (hp : p.size ≤ 262144) :
    Calls Try.prog 9 #[.string p] w fun e w' => e = .returned (.string ⟨(cleanRel p.data.toList).toArray⟩) ∧ Below w.heap.size w w' := by
  have hp' : (p.size : Int) ≤ 262144 := by omega
  obtain ⟨i0, hi, hz0, hz1, hz2⟩ := info_parts info9
  go_enter Try.func9, Try.ntmps9
  go_wp2
  go_loopw [3, 4, 5] (fun vs va vi wr => ∃ (ao : Option Addr) (n cap s k : Nat) (xs : List ByteArray), vs = .slice ao n cap ∧ va = .int .i64 s ∧ vi = .int .i64 k ∧ s ≤ k ∧ k ≤ p.size + 1 ∧ Hid (n = xs.length) ∧ Hid (Rel p w wr (.slice ao n cap) s k xs))
    (fun _ _ vi _ => p.size + 1 - (intOf vi).toNat)
  case atStart => exact ⟨none, 0, 0, 0, 0, [], rfl, rfl, rfl, Nat.le_refl _, by omega, rfl, Rel.start p w⟩
  case round =>
    obtain ⟨ao, n, cap, s, k, xs, rfl, rfl, rfl, hsk, hk, hn, hR⟩ := hrel
    have hsk' : (s : Int) ≤ (k : Int) := by omega
    have hwz : w.heap.size ≤ wr.heap.size := hR.out.1.size
    have hnk : n ≤ k := by rw [hn.out]; exact hR.out.2.2.1
    by_cases hkl : k ≤ p.size
    · by_cases hon : ∃ h : k < p.size, p[k] ≠ 47
      · obtain ⟨hlt, hc⟩ := hon
        have hlt' : (k : Int) < (p.size : Int) := by omega
        have tc : ((p[k].toNat : Int) != 47) = true := by
          rw [bne_iff_ne]
          intro e
          exact hc (UInt8.toNat_inj.1 (show p[k].toNat = 47 by omega))
        have HC : Hid (p[k] ≠ 47) := hc
        clear hc
        go_wp2
        go_roundw
        case rel => exact ⟨ao, n, cap, s, k + 1, xs, rfl, rfl, by go_num, by omega, by omega, hn, hR.out.on hlt HC.out⟩
        case measure => simp [intOf]; omega
      · have hbd : Hid (k = p.size ∨ p.data.toList[k]? = some 47) := by
          by_cases e : k = p.size
          · exact .inl e
          · have hlt : k < p.size := by omega
            by_cases e2 : p[k] = 47
            · exact .inr (by rw [get_at p k hlt, e2])
            · exact absurd ⟨hlt, e2⟩ hon
        clear hon
        obtain ⟨t1, ht1⟩ : ∃ b, (p.extract s k).toList.isEmpty = b := ⟨_, rfl⟩
        obtain ⟨t2, ht2⟩ : ∃ b, ((p.extract s k).toList == [46]) = b := ⟨_, rfl⟩
        obtain ⟨t3, ht3⟩ : ∃ b, ((p.extract s k).toList == [46, 46]) = b := ⟨_, rfl⟩
        have hkl' : (k : Int) ≤ (p.size : Int) := by omega
        by_cases hlt : k < p.size
        · have hlt' : (k : Int) < (p.size : Int) := by omega
          have tc : ((p[k].toNat : Int) != 47) = false := by
            rcases hbd.out with e | e
            · omega
            · rw [get_at p k hlt] at e
              rw [Option.some.inj e]
              rfl
          cases t1 with
          | true =>
            go_wp2
            go_roundw
            case rel => exact ⟨ao, n, cap, k + 1, k + 1, xs, rfl, by go_num, by go_num, by omega, by omega, hn, hR.out.skip hsk hbd.out (.inl (by rw [← Lib.toList_data]; simpa using ht1))⟩
            case measure => simp [intOf]; omega
          | false =>
            cases t2 with
            | true =>
              go_wp2
              go_roundw
              case rel => exact ⟨ao, n, cap, k + 1, k + 1, xs, rfl, by go_num, by go_num, by omega, by omega, hn, hR.out.skip hsk hbd.out (.inr (by rw [← Lib.toList_data]; simpa using ht2))⟩
              case measure => simp [intOf]; omega
            | false =>
              have HT1 : Hid ((p.extract s k).data.toList ≠ []) := by show _ ≠ _; rw [← Lib.toList_data]; intro e; rw [e] at ht1; simp at ht1
              have HT2 : Hid ((p.extract s k).data.toList ≠ [46]) := by show _ ≠ _; rw [← Lib.toList_data]; simpa using ht2
              cases t3 with
              | true =>
                have he : Hid ((p.extract s k).data.toList = [46, 46]) := by show _ = _; rw [← Lib.toList_data]; simpa using ht3
                rcases List.eq_nil_or_concat xs with rfl | ⟨ys, y, hxy⟩
                · obtain rfl : n = 0 := hn.out
                  have hst : Hid ((p.extract s k).data.toList :: (([] : List ByteArray).map (·.data.toList)).reverse = Pa.cleanStep false (([] : List ByteArray).map (·.data.toList)).reverse (p.extract s k).data.toList) := by show _ = _; rw [he.out]; exact step_bare.symm
                  have hown : Hid (wr.ownsRow w.heap.size 9 1 (.slice ao 0 cap) 0 (([] : List ByteArray).map Value.string)) := hR.out.2.1
                  go_wp2_with (at_builtin; refine wpList_append_own _ rfl (.tmp 58) (.tmp 60) 38 rfl w.heap.size 9 i0 (.string ByteArray.empty) 1 16 Try.underlying38 hi hz0 hz1 hz2 rfl (by decide) _ 0 _ rfl (hown.out.alloc _) ⟨wr.heap.size, 0, none⟩ 1 1 [.string (p.extract s k)] rfl rfl (one_at _ _ _) (one_str _) (by unfold maxLen; omega) (by omega) (by simp; omega) ?_; intro v' w1 hown' hgrow _)
                  obtain ⟨ao', cap', rfl, hR'⟩ := Rel.push hR.out hsk hbd.out (v' := v') (by simpa using hown') hgrow hst.out
                  clear hown' hgrow
                  have HR' : Hid (Rel p w w1 (.slice ao' ([] ++ [p.extract s k]).length cap') (k + 1) (k + 1) ([] ++ [p.extract s k])) := hR'
                  clear hR'
                  go_wp2
                  go_roundw
                  case rel => exact ⟨ao', _, cap', k + 1, k + 1, [] ++ [p.extract s k], rfl, by go_num, by go_num, by omega, by omega, rfl, HR'.out⟩
                  case measure => simp [intOf]; omega
                · rw [List.concat_eq_append] at hxy
                  subst hxy
                  obtain rfl : n = ys.length + 1 := by rw [hn.out]; simp
                  have hown0 : wr.ownsRow w.heap.size 9 1 (.slice ao (ys.length + 1) cap) (ys.length + 1) ((ys ++ [y]).map Value.string) := by have := hR.out.2.1; simpa using this
                  obtain ⟨g, cap', hao⟩ : ∃ g cap', Value.slice ao (ys.length + 1) cap = .slice (some ⟨g, 0, none⟩) (ys.length + 1) cap' := by
                    rcases hown0.2 with ⟨_, h0⟩ | ⟨g, cap', _, hv, _⟩
                    · omega
                    · exact ⟨g, cap', hv⟩
                  obtain ⟨rfl, _, rfl⟩ : ao = some ⟨g, 0, none⟩ ∧ True ∧ cap = cap' := by simpa using hao
                  clear hao
                  have cy : wr.cell? ⟨g, ys.length, none⟩ = some (.string y) := by rw [hown0.cellAt _ (by omega)]; simp
                  have hys : (ys.length : Int) ≤ 262144 := by omega
                  have hcap : ys.length + 1 ≤ cap := by
                    rcases hown0.2 with ⟨_, h0⟩ | ⟨g2, cap2, _, hv, _, _, hc2, _⟩
                    · omega
                    · simp at hv; omega
                  have hcap' : (ys.length : Int) ≤ (cap : Int) := by omega
                  have hown : Hid (wr.ownsRow w.heap.size 9 1 (.slice (some ⟨g, 0, none⟩) (ys.length + 1) cap) (ys.length + 1) ((ys ++ [y]).map Value.string)) := hown0
                  clear hown0
                  obtain ⟨t4, ht4⟩ : ∃ b, (y.toList == [46, 46]) = b := ⟨_, rfl⟩
                  cases t4 with
                  | true =>
                    have hst : Hid ((p.extract s k).data.toList :: ((ys ++ [y]).map (·.data.toList)).reverse = Pa.cleanStep false ((ys ++ [y]).map (·.data.toList)).reverse (p.extract s k).data.toList) := by
                      show _ = _
                      have hy : y.data.toList = [46, 46] := by rw [← Lib.toList_data]; simpa using ht4
                      have hrev : ((ys ++ [y]).map (·.data.toList)).reverse = y.data.toList :: (ys.map (·.data.toList)).reverse := by simp
                      rw [hrev, he.out, hy]
                      exact (step_top _).symm
                    go_wp2_with (at_builtin; refine wpList_append_own _ rfl (.tmp 58) (.tmp 60) 38 rfl w.heap.size 9 i0 (.string ByteArray.empty) 1 16 Try.underlying38 hi hz0 hz1 hz2 rfl (by decide) _ (ys.length + 1) _ rfl (hown.out.alloc _) ⟨wr.heap.size, 0, none⟩ 1 1 [.string (p.extract s k)] rfl rfl (one_at _ _ _) (one_str _) (by unfold maxLen; omega) (by omega) (by simp; omega) ?_; intro v' w1 hown' hgrow _)
                    obtain ⟨ao', cap', rfl, hR'⟩ := Rel.push hR.out hsk hbd.out (v' := v') (by simpa using hown') hgrow hst.out
                    clear hown' hgrow
                    have HR' : Hid (Rel p w w1 (.slice ao' ((ys ++ [y]) ++ [p.extract s k]).length cap') (k + 1) (k + 1) ((ys ++ [y]) ++ [p.extract s k])) := hR'
                    clear hR'
                    go_wp2
                    go_roundw
                    case rel => exact ⟨ao', _, cap', k + 1, k + 1, (ys ++ [y]) ++ [p.extract s k], rfl, by go_num, by go_num, by omega, by omega, rfl, HR'.out⟩
                    case measure => simp [intOf]; omega
                  | false =>
                    have hy : Hid (y.data.toList ≠ [46, 46]) := by show _ ≠ _; rw [← Lib.toList_data]; simpa using ht4
                    go_wp2
                    go_roundw
                    case rel => exact ⟨some ⟨g, 0, none⟩, ys.length, cap, k + 1, k + 1, ys, rfl, by go_num, by go_num, by omega, by omega, rfl, hR.out.pop hsk hbd.out he.out hy.out⟩
                    case measure => simp [intOf]; omega
              | false =>
                obtain rfl : n = xs.length := hn.out
                have hst : Hid ((p.extract s k).data.toList :: (xs.map (·.data.toList)).reverse = Pa.cleanStep false (xs.map (·.data.toList)).reverse (p.extract s k).data.toList) := by
                  show _ = _
                  rw [Pa.step_elem false _ _ HT1.out HT2.out (by rw [← Lib.toList_data]; simpa using ht3)]
                have hown : Hid (wr.ownsRow w.heap.size 9 1 (.slice ao xs.length cap) xs.length (xs.map Value.string)) := hR.out.2.1
                go_wp2_with (at_builtin; refine wpList_append_own _ rfl (.tmp 58) (.tmp 60) 38 rfl w.heap.size 9 i0 (.string ByteArray.empty) 1 16 Try.underlying38 hi hz0 hz1 hz2 rfl (by decide) _ xs.length _ rfl (hown.out.alloc _) ⟨wr.heap.size, 0, none⟩ 1 1 [.string (p.extract s k)] rfl rfl (one_at _ _ _) (one_str _) (by unfold maxLen; omega) (by omega) (by simp; omega) ?_; intro v' w1 hown' hgrow _)
                obtain ⟨ao', cap', rfl, hR'⟩ := Rel.push hR.out hsk hbd.out (v' := v') (by simpa using hown') hgrow hst.out
                clear hown' hgrow
                have HR' : Hid (Rel p w w1 (.slice ao' (xs ++ [p.extract s k]).length cap') (k + 1) (k + 1) (xs ++ [p.extract s k])) := hR'
                clear hR'
                go_wp2
                go_roundw
                case rel => exact ⟨ao', _, cap', k + 1, k + 1, xs ++ [p.extract s k], rfl, by go_num, by go_num, by omega, by omega, rfl, HR'.out⟩
                case measure => simp [intOf]; omega
        · have hge : ¬ (k : Int) < (p.size : Int) := by omega
          cases t1 with
          | true =>
            go_wp2
            go_roundw
            case rel => exact ⟨ao, n, cap, k + 1, k + 1, xs, rfl, by go_num, by go_num, by omega, by omega, hn, hR.out.skip hsk hbd.out (.inl (by rw [← Lib.toList_data]; simpa using ht1))⟩
            case measure => simp [intOf]; omega
          | false =>
            cases t2 with
            | true =>
              go_wp2
              go_roundw
              case rel => exact ⟨ao, n, cap, k + 1, k + 1, xs, rfl, by go_num, by go_num, by omega, by omega, hn, hR.out.skip hsk hbd.out (.inr (by rw [← Lib.toList_data]; simpa using ht2))⟩
              case measure => simp [intOf]; omega
            | false =>
              have HT1 : Hid ((p.extract s k).data.toList ≠ []) := by show _ ≠ _; rw [← Lib.toList_data]; intro e; rw [e] at ht1; simp at ht1
              have HT2 : Hid ((p.extract s k).data.toList ≠ [46]) := by show _ ≠ _; rw [← Lib.toList_data]; simpa using ht2
              cases t3 with
              | true =>
                have he : Hid ((p.extract s k).data.toList = [46, 46]) := by show _ = _; rw [← Lib.toList_data]; simpa using ht3
                rcases List.eq_nil_or_concat xs with rfl | ⟨ys, y, hxy⟩
                · obtain rfl : n = 0 := hn.out
                  have hst : Hid ((p.extract s k).data.toList :: (([] : List ByteArray).map (·.data.toList)).reverse = Pa.cleanStep false (([] : List ByteArray).map (·.data.toList)).reverse (p.extract s k).data.toList) := by show _ = _; rw [he.out]; exact step_bare.symm
                  have hown : Hid (wr.ownsRow w.heap.size 9 1 (.slice ao 0 cap) 0 (([] : List ByteArray).map Value.string)) := hR.out.2.1
                  go_wp2_with (at_builtin; refine wpList_append_own _ rfl (.tmp 58) (.tmp 60) 38 rfl w.heap.size 9 i0 (.string ByteArray.empty) 1 16 Try.underlying38 hi hz0 hz1 hz2 rfl (by decide) _ 0 _ rfl (hown.out.alloc _) ⟨wr.heap.size, 0, none⟩ 1 1 [.string (p.extract s k)] rfl rfl (one_at _ _ _) (one_str _) (by unfold maxLen; omega) (by omega) (by simp; omega) ?_; intro v' w1 hown' hgrow _)
                  obtain ⟨ao', cap', rfl, hR'⟩ := Rel.push hR.out hsk hbd.out (v' := v') (by simpa using hown') hgrow hst.out
                  clear hown' hgrow
                  have HR' : Hid (Rel p w w1 (.slice ao' ([] ++ [p.extract s k]).length cap') (k + 1) (k + 1) ([] ++ [p.extract s k])) := hR'
                  clear hR'
                  go_wp2
                  go_roundw
                  case rel => exact ⟨ao', _, cap', k + 1, k + 1, [] ++ [p.extract s k], rfl, by go_num, by go_num, by omega, by omega, rfl, HR'.out⟩
                  case measure => simp [intOf]; omega
                · rw [List.concat_eq_append] at hxy
                  subst hxy
                  obtain rfl : n = ys.length + 1 := by rw [hn.out]; simp
                  have hown0 : wr.ownsRow w.heap.size 9 1 (.slice ao (ys.length + 1) cap) (ys.length + 1) ((ys ++ [y]).map Value.string) := by have := hR.out.2.1; simpa using this
                  obtain ⟨g, cap', hao⟩ : ∃ g cap', Value.slice ao (ys.length + 1) cap = .slice (some ⟨g, 0, none⟩) (ys.length + 1) cap' := by
                    rcases hown0.2 with ⟨_, h0⟩ | ⟨g, cap', _, hv, _⟩
                    · omega
                    · exact ⟨g, cap', hv⟩
                  obtain ⟨rfl, _, rfl⟩ : ao = some ⟨g, 0, none⟩ ∧ True ∧ cap = cap' := by simpa using hao
                  clear hao
                  have cy : wr.cell? ⟨g, ys.length, none⟩ = some (.string y) := by rw [hown0.cellAt _ (by omega)]; simp
                  have hys : (ys.length : Int) ≤ 262144 := by omega
                  have hcap : ys.length + 1 ≤ cap := by
                    rcases hown0.2 with ⟨_, h0⟩ | ⟨g2, cap2, _, hv, _, _, hc2, _⟩
                    · omega
                    · simp at hv; omega
                  have hcap' : (ys.length : Int) ≤ (cap : Int) := by omega
                  have hown : Hid (wr.ownsRow w.heap.size 9 1 (.slice (some ⟨g, 0, none⟩) (ys.length + 1) cap) (ys.length + 1) ((ys ++ [y]).map Value.string)) := hown0
                  clear hown0
                  obtain ⟨t4, ht4⟩ : ∃ b, (y.toList == [46, 46]) = b := ⟨_, rfl⟩
                  cases t4 with
                  | true =>
                    have hst : Hid ((p.extract s k).data.toList :: ((ys ++ [y]).map (·.data.toList)).reverse = Pa.cleanStep false ((ys ++ [y]).map (·.data.toList)).reverse (p.extract s k).data.toList) := by
                      show _ = _
                      have hy : y.data.toList = [46, 46] := by rw [← Lib.toList_data]; simpa using ht4
                      have hrev : ((ys ++ [y]).map (·.data.toList)).reverse = y.data.toList :: (ys.map (·.data.toList)).reverse := by simp
                      rw [hrev, he.out, hy]
                      exact (step_top _).symm
                    go_wp2_with (at_builtin; refine wpList_append_own _ rfl (.tmp 58) (.tmp 60) 38 rfl w.heap.size 9 i0 (.string ByteArray.empty) 1 16 Try.underlying38 hi hz0 hz1 hz2 rfl (by decide) _ (ys.length + 1) _ rfl (hown.out.alloc _) ⟨wr.heap.size, 0, none⟩ 1 1 [.string (p.extract s k)] rfl rfl (one_at _ _ _) (one_str _) (by unfold maxLen; omega) (by omega) (by simp; omega) ?_; intro v' w1 hown' hgrow _)
                    obtain ⟨ao', cap', rfl, hR'⟩ := Rel.push hR.out hsk hbd.out (v' := v') (by simpa using hown') hgrow hst.out
                    clear hown' hgrow
                    have HR' : Hid (Rel p w w1 (.slice ao' ((ys ++ [y]) ++ [p.extract s k]).length cap') (k + 1) (k + 1) ((ys ++ [y]) ++ [p.extract s k])) := hR'
                    clear hR'
                    go_wp2
                    go_roundw
                    case rel => exact ⟨ao', _, cap', k + 1, k + 1, (ys ++ [y]) ++ [p.extract s k], rfl, by go_num, by go_num, by omega, by omega, rfl, HR'.out⟩
                    case measure => simp [intOf]; omega
                  | false =>
                    have hy : Hid (y.data.toList ≠ [46, 46]) := by show _ ≠ _; rw [← Lib.toList_data]; simpa using ht4
                    go_wp2
                    go_roundw
                    case rel => exact ⟨some ⟨g, 0, none⟩, ys.length, cap, k + 1, k + 1, ys, rfl, by go_num, by go_num, by omega, by omega, rfl, hR.out.pop hsk hbd.out he.out hy.out⟩
                    case measure => simp [intOf]; omega
              | false =>
                obtain rfl : n = xs.length := hn.out
                have hst : Hid ((p.extract s k).data.toList :: (xs.map (·.data.toList)).reverse = Pa.cleanStep false (xs.map (·.data.toList)).reverse (p.extract s k).data.toList) := by
                  show _ = _
                  rw [Pa.step_elem false _ _ HT1.out HT2.out (by rw [← Lib.toList_data]; simpa using ht3)]
                have hown : Hid (wr.ownsRow w.heap.size 9 1 (.slice ao xs.length cap) xs.length (xs.map Value.string)) := hR.out.2.1
                go_wp2_with (at_builtin; refine wpList_append_own _ rfl (.tmp 58) (.tmp 60) 38 rfl w.heap.size 9 i0 (.string ByteArray.empty) 1 16 Try.underlying38 hi hz0 hz1 hz2 rfl (by decide) _ xs.length _ rfl (hown.out.alloc _) ⟨wr.heap.size, 0, none⟩ 1 1 [.string (p.extract s k)] rfl rfl (one_at _ _ _) (one_str _) (by unfold maxLen; omega) (by omega) (by simp; omega) ?_; intro v' w1 hown' hgrow _)
                obtain ⟨ao', cap', rfl, hR'⟩ := Rel.push hR.out hsk hbd.out (v' := v') (by simpa using hown') hgrow hst.out
                clear hown' hgrow
                have HR' : Hid (Rel p w w1 (.slice ao' (xs ++ [p.extract s k]).length cap') (k + 1) (k + 1) (xs ++ [p.extract s k])) := hR'
                clear hR'
                go_wp2
                go_roundw
                case rel => exact ⟨ao', _, cap', k + 1, k + 1, xs ++ [p.extract s k], rfl, by go_num, by go_num, by omega, by omega, rfl, HR'.out⟩
                case measure => simp [intOf]; omega
    · rename World => W1
      have hdone : Hid (cleanRel p.data.toList = relOut (xs.map (·.data.toList))) := by
        have hk1 : k = p.size + 1 := by omega
        have hR1 := hR.out
        rw [hk1] at hR1
        exact Rel.done hR1 (by omega)
      have hgt : (p.size : Int) < (k : Int) := by omega
      obtain rfl : n = xs.length := hn.out
      by_cases hx0 : xs = []
      · subst hx0
        have tz : ((([] : List ByteArray).length : Int) == 0) = true := rfl
        go_wp2
        go_ret
        exact ⟨by rw [hdone.out]; rfl, hR.out.1⟩
      · have hpos : 0 < xs.length := List.length_pos_iff.2 hx0
        have tz : ((xs.length : Int) == 0) = false := beq_eq_false_iff_ne.2 (by omega)
        have HX0 : Hid (xs ≠ []) := hx0
        have HSZ : Hid (∀ x ∈ xs, x.size ≤ p.size) := hR.out.2.2.2.1
        have HUP : Hid (cleanRel p.data.toList = upTo xs) := by show _ = _; rw [hdone.out, relOut, if_neg (by simpa using hx0)]; rfl
        have HBW : Hid (Below w.heap.size w W1) := hR.out.1
        have hown0 : W1.ownsRow w.heap.size 9 1 (.slice ao xs.length cap) xs.length (xs.map Value.string) := hR.out.2.1
        obtain ⟨g, cap', hao⟩ : ∃ g cap', Value.slice ao xs.length cap = .slice (some ⟨g, 0, none⟩) xs.length cap' := by
          rcases hown0.2 with ⟨_, h0⟩ | ⟨g, cap', _, hv, _⟩
          · omega
          · exact ⟨g, cap', hv⟩
        obtain ⟨rfl, _, rfl⟩ : ao = some ⟨g, 0, none⟩ ∧ True ∧ cap = cap' := by simpa using hao
        have hgl : g < W1.heap.size := (hown0.lt g rfl).2
        have HC : Hid (∀ j x, xs[j]? = some x → W1.cell? ⟨g, j, none⟩ = some (.string x)) := fun j x hj => by
          rw [hown0.cellAt j (by have := (List.getElem?_eq_some_iff.1 hj).1; omega), List.getElem?_map, hj]
          rfl
        have hxl : xs.length ≤ 262145 := by omega
        clear hown0 hao hR hdone hx0 hn
        obtain ⟨i5, hi5, hy0, hy1, hy2⟩ := info_parts info5
        generalize hN : xs.length = N at *
        have HN : Hid (xs.length = N) := hN
        clear hN
        have hxl' : (N : Int) ≤ 262145 := by omega
        go_wp2
        go_loopw [7, 8] (fun vo vi w2 => ∃ (ao2 : Option Addr) (m cap2 j : Nat), vo = .slice ao2 m cap2 ∧ vi = .int .i64 j ∧ j ≤ N ∧ m ≤ j * 262145 ∧ Hid (w2.ownsRow W1.heap.size 5 1 (.slice ao2 m cap2) m (cellsB (upTo (xs.take j)))) ∧ Hid (Below W1.heap.size W1 w2))
          (fun _ vi _ => N - (intOf vi).toNat)
        case atStart => exact ⟨none, 0, 0, 0, rfl, rfl, Nat.zero_le _, Nat.zero_le _, World.ownsRow_nil _ _ _ _, Below.refl _ _⟩
        case round =>
          obtain ⟨ao2, m, cap2, j, rfl, rfl, hjN, hmj, hown, hbel⟩ := hrel
          have hws : W1.heap.size ≤ wr.heap.size := hbel.out.size
          by_cases hlt : j < N
          · have hlt' : (j : Int) < (N : Int) := by omega
            obtain ⟨x, hx⟩ : ∃ x, xs[j]? = some x := ⟨xs[j]'(by rw [HN.out]; exact hlt), List.getElem?_eq_getElem _⟩
            have hxs : x.size ≤ 262144 := Nat.le_trans (HSZ.out x (List.mem_of_getElem? hx)) hp
            have hmb : m ≤ 70000000000 := by omega
            have cx : wr.cell? ⟨g, j, none⟩ = some (.string x) := (hbel.out.cell (p := ⟨g, j, none⟩) hgl).trans (HC.out j x hx)
            by_cases hj0 : j = 0
            · subst hj0
              have hup : Hid (cellsB (upTo (xs.take 0)) ++ Lib.strCells x = cellsB (upTo (xs.take (0 + 1)))) := by
                show _ = _
                rw [upTo_first xs x hx, List.take_zero, upTo_nil]
                rfl
              clear hx
              go_wp2_with (at_builtin; refine Lib.wpList_append_own_string _ rfl (.tmp 76) (.tmp 80) 39 9 rfl W1.heap.size 5 i5 Try.underlying39 Try.underlying9 hi5 hy0 hy1 hy2 _ m _ rfl hown.out x rfl (by unfold maxLen; omega) (by omega) (by omega) ?_; intro v' w4 hown' hgrow _)
              rw [hup.out] at hown'
              obtain ⟨hm', ao4, cap4, rfl⟩ := out_form hown'
              have hb4 : Hid (Below W1.heap.size W1 w4) := hbel.out.grown hgrow hws (fun i hi => (hown.out.lt i hi).1)
              have HO : Hid (w4.ownsRow W1.heap.size 5 1 (.slice ao4 (m + x.size) cap4) (m + x.size) (cellsB (upTo (xs.take (0 + 1))))) := hown'
              clear hown' hgrow hm'
              go_wp2
              go_roundw
              case rel => exact ⟨ao4, m + x.size, cap4, 0 + 1, rfl, by go_num, by omega, by omega, HO, hb4⟩
              case measure => simp [intOf]; omega
            · have hj1 : (0 : Int) < (j : Int) := by omega
              have hup : Hid (cellsB (upTo (xs.take j)) ++ [Value.int .u8 47] ++ Lib.strCells x = cellsB (upTo (xs.take (j + 1)))) := by
                show _ = _
                rw [upTo_succ xs j x hx (by omega), cellsB_app, strCells_eq, List.append_assoc]
                rfl
              have hcell : Hid (∀ w3, Below W1.heap.size W1 w3 → w3.cell? ⟨g, j, none⟩ = some (.string x)) := fun w3 hb => (hb.cell (p := ⟨g, j, none⟩) hgl).trans (HC.out j x hx)
              clear hx
              go_wp2_with (first
                | (at_builtin; refine wpList_append_own _ rfl (.tmp 73) (.tmp 74) 39 rfl W1.heap.size 5 i5 (.int .u8 0) 1 1 Try.underlying39 hi5 hy0 hy1 hy2 rfl (by decide) _ m _ rfl (hown.out.alloc _) ⟨wr.heap.size, 0, none⟩ 1 1 [.int .u8 47] rfl rfl (one_at _ _ _) (one_int _) (by unfold maxLen; omega) (by omega) (by simp; omega) ?_; intro v3 w3 hown3 hgrow3 _; obtain ⟨ao3, cap3, rfl⟩ := row_form hown3; have hb3 : Hid (Below W1.heap.size W1 w3) := ((hbel.out.alloc hws _).grown hgrow3 (by simp; omega) (fun i hi => (hown.out.lt i hi).1)); have HO3 : Hid (w3.ownsRow W1.heap.size 5 1 (.slice ao3 (m + 1) cap3) (m + 1) (cellsB (upTo (xs.take j)) ++ [Value.int .u8 47])) := hown3; have cx3 := hcell.out w3 hb3.out; have hws3 : W1.heap.size ≤ w3.heap.size := hb3.out.size; clear hown3 hgrow3)
                | (at_builtin; refine Lib.wpList_append_own_string _ rfl (.tmp 76) (.tmp 80) 39 9 rfl W1.heap.size 5 i5 Try.underlying39 Try.underlying9 hi5 hy0 hy1 hy2 _ (m + 1) _ rfl HO3.out x rfl (by unfold maxLen; omega) (by omega) (by omega) ?_; intro v' w4 hown' hgrow _))
              rw [hup.out] at hown'
              obtain ⟨hm', ao4, cap4, rfl⟩ := out_form hown'
              have hb4 : Hid (Below W1.heap.size W1 w4) := hb3.out.grown hgrow hws3 (fun i hi => (HO3.out.lt i hi).1)
              have HO : Hid (w4.ownsRow W1.heap.size 5 1 (.slice ao4 (m + 1 + x.size) cap4) (m + 1 + x.size) (cellsB (upTo (xs.take (j + 1))))) := hown'
              clear hown' hgrow hm'
              go_wp2
              go_roundw
              case rel => exact ⟨ao4, m + 1 + x.size, cap4, j + 1, rfl, by go_num, by omega, by omega, HO, hb4⟩
              case measure => simp [intOf]; omega
          · obtain rfl : j = N := by omega
            have hall : xs.take j = xs := List.take_of_length_le (by rw [HN.out]; exact Nat.le_refl _)
            have hcv := out_string hown.out (P := Try.prog) 39 9 Try.underlying39 Try.underlying5 Try.underlying9
            rw [hall] at hcv
            clear hall
            go_wp2
            go_ret
            exact ⟨by rw [HUP.out]; rfl, HBW.out.trans (hbel.out.mono HBW.out.size)⟩
end Go.Proofs.Qxb6613500a.Fl
