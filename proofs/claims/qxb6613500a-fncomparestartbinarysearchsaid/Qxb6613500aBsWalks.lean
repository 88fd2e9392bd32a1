/-
  FnCompareStartBinarySearch: the walk. Slices of one span to 65,536 ('walk_main'), of none ('walk_none'), longer ones ('walk_long', 'walk_huge').
-/
import Derived.Test.Qxb6613500aBsCmp
import Derived.Test.Qxb6613500aBsPlain
import Derived.BigQuiet
import Derived.Deep.QuietTactic
import Derived.Deep.RegionHeld3
import Derived.Deep.LoopGhost
import Derived.WalkSmall
namespace Go.Proofs.Qxb6613500a.Bs
open Go.RowKit

set_option maxHeartbeats 400000 in
theorem walk_main (b off n c : Nat) (S E : Nat → Int) (at' : Int) (w : World) (hn0 : 1 ≤ n) (hn : n ≤ 65536)
    (hS : ∀ i, i < n → w.cell? ⟨b, off + i * 2, none⟩ = some (.int .i64 (S i)))
    (hE : ∀ i, i < n → w.cell? ⟨b, off + i * 2 + 1, none⟩ = some (.int .i64 (E i))) (hb : b < w.heap.size) :
    Calls Try.prog 5 #[.slice (some ⟨b, off, none⟩) n c, .int .i64 at'] w fun e w' => e = .returned (.bool true) ∧ Below w.heap.size w w' := by
  have HS : Hid (∀ i, i < n → w.cell? ⟨b, off + i * 2, none⟩ = some (.int .i64 (S i))) := hS
  have HE : Hid (∀ i, i < n → w.cell? ⟨b, off + i * 2 + 1, none⟩ = some (.int .i64 (E i))) := hE
  clear hS hE
  have hn' : (n : Int) ≤ 65536 := by omega
  go_enter Try.func5, Try.ntmps5
  go_wp2_with (go_at_call 11; refine (bytes_yes _ _ _ _ (by omega) _).mono ?_; rintro e w' ⟨rfl, hw⟩; subst w')
  go_loopw [5] (fun vi wr => ∃ (k nd : Nat), 1 ≤ k ∧ k ≤ n ∧ vi = .int .i64 k ∧ wr = w.drewN nd ∧ Hid (∀ j, 1 ≤ j → j < k → S (j-1) ≤ S j)) (fun vi _ => n - (intOf vi).toNat)
  case atStart => exact ⟨1, 0, Nat.le_refl _, hn0, rfl, rfl, fun j h1 h2 => by omega⟩
  case round =>
    obtain ⟨k, nd, hk1, hkn, rfl, rfl, hsort⟩ := hrel
    by_cases hlt : k < n
    · have hlt' : (k : Int) < (n : Int) := by omega
      have hk1' : (1 : Int) ≤ (k : Int) := by omega
      have c0 := HS.out (k - 1) (by omega)
      have c1 := HS.out k hlt
      go_wp2_with fail
      go_quiet (fail)
      go_wp2
      · go_ret
        exact ⟨rfl, below_drewN (below_drewN (Below.refl _ _) _) _⟩
      · go_roundw
        case rel => exact ⟨k + 1, nd + nq, by omega, by omega, by go_num, rfl, sort_step hsort.out (by omega)⟩
        case measure => simp [intOf]; omega
    · have hkn' : k = n := by omega
      subst hkn'
      have HSO : Hid (∀ j, 1 ≤ j → j < k → S (j-1) ≤ S j) := hsort
      have HB0 : Hid (Below w.heap.size w (w.drewN nd)) := below_drewN (Below.refl _ _) _
      clear hsort
      go_wp2
      go_loopw [7, 8] (fun vl vh wr => ∃ (lo hi : Nat), lo ≤ hi ∧ hi ≤ k ∧ vl = .int .i64 lo ∧ vh = .int .i64 hi ∧ Hid (Below w.heap.size w wr) ∧ Hid (∀ j, j < lo → S j < at') ∧ Hid (∀ j, hi ≤ j → j < k → at' ≤ S j)) (fun vl vh _ => (intOf vh).toNat - (intOf vl).toNat)
      case atStart => exact ⟨0, k, by omega, Nat.le_refl _, rfl, rfl, HB0, fun j h => by omega, fun j h h' => by omega⟩
      case round =>
        obtain ⟨lo, hi, hlh, hhk, rfl, rfl, hbel, hlo, hhi⟩ := hrel
        by_cases hlt2 : lo < hi
        · have hlt2' : (lo : Int) < (hi : Int) := by omega
          have hhk' : (hi : Int) ≤ (k : Int) := by omega
          go_wp2_with fail
          obtain ⟨m, hm⟩ : ∃ m : Nat, (lo : Int) + ((hi : Int) - (lo : Int)) / 2 = (m : Int) := ⟨lo + (hi - lo) / 2, by omega⟩
          rw [hm]
          have hm1 : lo ≤ m := by omega
          have hm2 : m < hi := by omega
          have hm3 : (m : Int) < (k : Int) := by omega
          clear hm
          have d0 : wr.cell? ⟨b, off + m * 2, none⟩ = some (.int .i64 (S m)) := (hbel.out.cell (p := ⟨b, off + m * 2, none⟩) hb).trans (HS.out m (by omega))
          have d1 : wr.cell? ⟨b, off + m * 2 + 1, none⟩ = some (.int .i64 (E m)) := (hbel.out.cell (p := ⟨b, off + m * 2 + 1, none⟩) hb).trans (HE.out m (by omega))
          have hbr : b < wr.heap.size := Nat.lt_of_lt_of_le hb hbel.out.size
          by_cases hs : S m < at'
          · go_region_held3 (fun w' => w'.cell? ⟨b, off + m * 2, none⟩ = some (.int .i64 (S m)) ∧ w'.cell? ⟨b, off + m * 2 + 1, none⟩ = some (.int .i64 (E m))) (go_keep)
              (first | (go_at_call 12; refine (cmp_lt _ _ _ (by omega) _).mono ?_; rintro e w' ⟨rfl, hw⟩; subst w'))
            go_wp2
            go_roundw
            case rel => exact ⟨m + 1, hi, by omega, hhk, by go_num, rfl, (hbel.out.alloc hbel.out.size _).drew, step_lo HSO.out (by omega) hs, hhi⟩
            case measure => simp [intOf]; omega
          · by_cases hs2 : at' < S m
            · go_region_held3 (fun w' => w'.cell? ⟨b, off + m * 2, none⟩ = some (.int .i64 (S m)) ∧ w'.cell? ⟨b, off + m * 2 + 1, none⟩ = some (.int .i64 (E m))) (go_keep)
                (first | (go_at_call 12; refine (cmp_gt _ _ _ (by omega) _).mono ?_; rintro e w' ⟨rfl, hw⟩; subst w'))
              go_wp2
              go_roundw
              case rel => exact ⟨lo, m, hm1, by omega, rfl, rfl, (hbel.out.alloc hbel.out.size _).drew, hlo, step_hi HSO.out (by omega)⟩
              case measure => simp [intOf]; omega
            · go_region_held3 (fun w' => w'.cell? ⟨b, off + m * 2, none⟩ = some (.int .i64 (S m)) ∧ w'.cell? ⟨b, off + m * 2 + 1, none⟩ = some (.int .i64 (E m))) (go_keep)
                (first | (go_at_call 12; refine (cmp_eq _ _ _ (by omega) (by omega) _).mono ?_; rintro e w' ⟨rfl, hw⟩; subst w'))
              go_wp2
              go_roundw
              case rel => exact ⟨lo, m, hm1, by omega, rfl, rfl, (hbel.out.alloc hbel.out.size _).drew, hlo, step_hi HSO.out (by omega)⟩
              case measure => simp [intOf]; omega
        · obtain rfl : lo = hi := by omega
          by_cases hlk : lo < k
          · have hlk' : (lo : Int) < (k : Int) := by omega
            have hge := hhi.out lo (Nat.le_refl _) hlk
            have d0 : wr.cell? ⟨b, off + lo * 2, none⟩ = some (.int .i64 (S lo)) := (hbel.out.cell (p := ⟨b, off + lo * 2, none⟩) hb).trans (HS.out lo (by omega))
            have d1 : wr.cell? ⟨b, off + lo * 2 + 1, none⟩ = some (.int .i64 (E lo)) := (hbel.out.cell (p := ⟨b, off + lo * 2 + 1, none⟩) hb).trans (HE.out lo (by omega))
            have hbr : b < wr.heap.size := Nat.lt_of_lt_of_le hb hbel.out.size
            have hs : ¬ S lo < at' := by omega
            by_cases hs2 : at' < S lo
            · go_wp2_with fail
              go_region_held3 (fun w' => w'.cell? ⟨b, off + lo * 2, none⟩ = some (.int .i64 (S lo)) ∧ w'.cell? ⟨b, off + lo * 2 + 1, none⟩ = some (.int .i64 (E lo))) (go_keep)
                (first | (go_at_call 12; refine (cmp_gt _ _ _ (by omega) _).mono ?_; rintro e w' ⟨rfl, hw⟩; subst w'))
              have hB3 : Hid (Below w.heap.size w (wr.alloc (.cells #[.int .i64 (S lo), .int .i64 (E lo)] 42)).drew) := (hbel.out.alloc hbel.out.size _).drew
              generalize (wr.alloc (.cells #[.int .i64 (S lo), .int .i64 (E lo)] 42)).drew = w3 at hB3 ⊢
              clear d0 d1
              go_wp2
              go_loop [11] (fun vc => ∃ j : Nat, j ≤ lo ∧ vc = .int .i64 j) (fun vc => lo - (intOf vc).toNat)
              case atStart => exact ⟨0, Nat.zero_le _, rfl⟩
              case round =>
                obtain ⟨j, hj, rfl⟩ := hrel
                by_cases hjl : j < lo
                · have hj1 : (j : Int) < (k : Int) := by omega
                  have hj2 := hlo.out j hjl
                  have c3 : w3.cell? ⟨b, off + j * 2, none⟩ = some (.int .i64 (S j)) := (hB3.out.cell (p := ⟨b, off + j * 2, none⟩) hb).trans (HS.out j (by omega))
                  go_wp2
                  go_round
                  case rel => exact ⟨j + 1, by omega, by go_num⟩
                  case measure => simp [intOf]; omega
                · obtain rfl : j = lo := by omega
                  have c3 : w3.cell? ⟨b, off + j * 2, none⟩ = some (.int .i64 (S j)) := (hB3.out.cell (p := ⟨b, off + j * 2, none⟩) hb).trans (HS.out j (by omega))
                  have hq : (S j == at') = false := beq_eq_false_iff_ne.2 (by omega)
                  go_wp2
                  go_ret
                  exact ⟨rfl, hB3.out⟩
            · go_wp2_with fail
              go_region_held3 (fun w' => w'.cell? ⟨b, off + lo * 2, none⟩ = some (.int .i64 (S lo)) ∧ w'.cell? ⟨b, off + lo * 2 + 1, none⟩ = some (.int .i64 (E lo))) (go_keep)
                (first | (go_at_call 12; refine (cmp_eq _ _ _ (by omega) (by omega) _).mono ?_; rintro e w' ⟨rfl, hw⟩; subst w'))
              have hB3 : Hid (Below w.heap.size w (wr.alloc (.cells #[.int .i64 (S lo), .int .i64 (E lo)] 42)).drew) := (hbel.out.alloc hbel.out.size _).drew
              generalize (wr.alloc (.cells #[.int .i64 (S lo), .int .i64 (E lo)] 42)).drew = w3 at hB3 ⊢
              clear d0 d1
              go_wp2
              go_loop [11] (fun vc => ∃ j : Nat, j ≤ lo ∧ vc = .int .i64 j) (fun vc => lo - (intOf vc).toNat)
              case atStart => exact ⟨0, Nat.zero_le _, rfl⟩
              case round =>
                obtain ⟨j, hj, rfl⟩ := hrel
                by_cases hjl : j < lo
                · have hj1 : (j : Int) < (k : Int) := by omega
                  have hj2 := hlo.out j hjl
                  have c3 : w3.cell? ⟨b, off + j * 2, none⟩ = some (.int .i64 (S j)) := (hB3.out.cell (p := ⟨b, off + j * 2, none⟩) hb).trans (HS.out j (by omega))
                  go_wp2
                  go_round
                  case rel => exact ⟨j + 1, by omega, by go_num⟩
                  case measure => simp [intOf]; omega
                · obtain rfl : j = lo := by omega
                  have c3 : w3.cell? ⟨b, off + j * 2, none⟩ = some (.int .i64 (S j)) := (hB3.out.cell (p := ⟨b, off + j * 2, none⟩) hb).trans (HS.out j (by omega))
                  have hq : (S j == at') = true := beq_iff_eq.2 (by omega)
                  go_wp2
                  go_ret
                  exact ⟨rfl, hB3.out⟩
          · obtain rfl : lo = k := by omega
            have hd : decide ((lo : Int) < (lo : Int)) = false := by simp
            clear hlk
            go_wp2_with fail
            go_quiet (fail)
            have hB3 : Hid (Below w.heap.size w (wr.drewN nq)) := below_drewN hbel.out _
            generalize wr.drewN nq = w3 at hB3 ⊢
            go_wp2
            go_loop [11] (fun vc => ∃ j : Nat, j ≤ lo ∧ vc = .int .i64 j) (fun vc => lo - (intOf vc).toNat)
            case atStart => exact ⟨0, Nat.zero_le _, rfl⟩
            case round =>
              obtain ⟨j, hj, rfl⟩ := hrel
              by_cases hjl : j < lo
              · have hj1 : (j : Int) < (lo : Int) := by omega
                have hj2 := hlo.out j hjl
                have c3 : w3.cell? ⟨b, off + j * 2, none⟩ = some (.int .i64 (S j)) := (hB3.out.cell (p := ⟨b, off + j * 2, none⟩) hb).trans (HS.out j (by omega))
                go_wp2
                go_round
                case rel => exact ⟨j + 1, by omega, by go_num⟩
                case measure => simp [intOf]; omega
              · obtain rfl : j = lo := by omega
                go_wp2
                go_ret
                exact ⟨rfl, hB3.out⟩

set_option maxHeartbeats 400000 in
theorem walk_none (x : Option Addr) (c : Nat) (at' : Int) (w : World) :
    Calls Try.prog 5 #[.slice x 0 c, .int .i64 at'] w fun e w' => e = .returned (.bool true) ∧ Below w.heap.size w w' := by
  have hd : decide ((0 : Int) < (0 : Int)) = false := by simp
  go_enter Try.func5, Try.ntmps5
  go_wp2_with (go_at_call 11; refine (bytes_yes _ _ _ _ (by omega) _).mono ?_; rintro e w' ⟨rfl, hw⟩; subst w')
  go_loop [5] (fun vi => vi = .int .i64 1) (fun _ => 0)
  case atStart => rfl
  case round =>
    obtain rfl := hrel
    go_wp2
    go_loop [7, 8] (fun vl vh => vl = .int .i64 0 ∧ vh = .int .i64 0) (fun _ _ => 0)
    case atStart => exact ⟨rfl, rfl⟩
    case round =>
      obtain ⟨rfl, rfl⟩ := hrel
      go_wp2_with fail
      go_quiet (fail)
      have hB3 : Hid (Below w.heap.size w (w.drewN nq)) := below_drewN (Below.refl _ _) _
      go_wp2
      go_loop [11] (fun vc => vc = .int .i64 0) (fun _ => 0)
      case atStart => rfl
      case round =>
        obtain rfl := hrel
        go_wp2
        go_ret
        exact ⟨rfl, hB3.out⟩

theorem walk_long (x : Option Addr) (n c : Nat) (at' : Int) (w : World) (h : 65536 < n) (h2 : n ≤ 1048576) :
    Calls Try.prog 5 #[.slice x n c, .int .i64 at'] w fun e w' => e = .returned (.bool true) ∧ Below w.heap.size w w' := by
  have h' : (65536 : Int) < (n : Int) := by omega
  go_enter Try.func5, Try.ntmps5
  go_wp2_with (go_at_call 11; refine (bytes_yes _ _ _ _ (by omega) _).mono ?_; rintro e w' ⟨rfl, hw⟩; subst w')
  go_ret
  exact ⟨rfl, Below.refl _ _⟩

theorem walk_huge (x : Option Addr) (n c : Nat) (at' : Int) (w : World) (h : 1048576 < n) :
    Calls Try.prog 5 #[.slice x n c, .int .i64 at'] w fun e w' => e = .returned (.bool true) ∧ Below w.heap.size w w' := by
  go_enter Try.func5, Try.ntmps5
  go_wp2_with (go_at_call 11; refine (bytes_no _ _ _ _ (by omega) _).mono ?_; rintro e w' ⟨rfl, hw⟩; subst w')
  go_ret
  exact ⟨rfl, Below.refl _ _⟩

end Go.Proofs.Qxb6613500a.Bs
