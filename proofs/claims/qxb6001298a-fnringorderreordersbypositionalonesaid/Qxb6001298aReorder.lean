/-
  THE WALK of FnRingOrderReordersByPositionAlone.
-/
import Derived.Test.Qxb6001298aStrs
namespace Go.Proofs.Qxb6001298a.Reorder
open Go.RowKit
open Plain Turns
set_option linter.unusedVariables false

theorem strs_at {w : World} {g n : Nat} {ss : List ByteArray} (h : Blk w g 9 (ss.map Value.string)) (hl : ss.length = n) (i : Nat) (hi : i < n) : w.cell? ⟨g, i, none⟩ = some (.string (ss.getD i ByteArray.empty)) := by
  have := blk_cells h hl i hi
  rwa [Nat.zero_add] at this

set_option maxHeartbeats 3200000 in
theorem walk (ao : Option Addr) (b off n cap turn : Nat) (ss : List ByteArray) (w : World) (hn : n ≤ 9223372036854775807) (ht : turn < 18446744073709551616) (hr : Strs.Row w ao b off n ss) (hl : Hid (ss.length = n)) :
    Calls Try.prog 3 #[.slice ao n cap, .int .u64 turn] w fun e w' => e = .returned (.bool true) ∧ Below w.heap.size w w' := by
  go_enter Try.func3, Try.ntmps3
  go_wp2_with fail
  refine (Strs.bytes9 ao b off n cap _ ss _ hr hn).mono ?_
  rintro e w' ⟨⟨B, rfl⟩, rfl⟩
  by_cases hB : B = false
  · subst hB
    go_wp2_with fail
    go_ret
    exact ⟨rfl, Below.refl _ _⟩
  obtain rfl : B = true := by simpa using hB
  by_cases h1 : 65536 < n
  · go_wp2_with fail
    go_ret
    exact ⟨rfl, Below.refl _ _⟩
  go_wp2_with fail
  refine (Strs.bytes10 ao b off n cap ss _ hr (by omega)).mono ?_
  rintro e w' ⟨⟨T, rfl⟩, rfl⟩
  by_cases h2 : 1048576 < T
  · go_wp2_with fail
    go_ret
    exact ⟨rfl, Below.refl _ _⟩
  by_cases h3 : n < 2
  · go_wp2_with fail
    go_ret
    exact ⟨rfl, Below.refl _ _⟩
  obtain rfl := hr.at_ (by omega)
  have hb := hr.lt (by omega)
  have hc : Hid (∀ i, i < n → w'.cell? ⟨b, off + i, none⟩ = some (.string (ss.getD i ByteArray.empty))) := hr.cell
  go_wp2_with fail
  refine (Strs.clone b off n cap ss _ (by omega) hb hl hc).mono ?_
  rintro e w1 ⟨rfl, hM1, hb1⟩
  clear hc hr
  have lM := hM1.lt
  go_wp2_with fail
  refine (Labels.labels n _ (by omega)).mono ?_
  rintro e w2 ⟨rfl, ls, hL, hL2, hb2⟩
  have HL : Hid (Labels.Labelled ls n) := hL
  have hM2 := hM1.below hb2 hM1.lt
  have hb2 := hb1.trans (hb2.mono hb1.size)
  clear hL hM1 hb1
  go_wp2_with fail
  refine (Ring.zzRing _ 0 n n turn ls _ (by omega) (by omega) ht hL2.lt (blk_cells hL2 HL.out.1)).mono ?_
  rintro e w3 ⟨g, cp, rfl, hg1, hg2, hg3, hb3⟩
  have hM3 := hM2.below hb3 hM2.lt
  have hb3 := hb2.trans (hb3.mono hb2.size)
  have HG : Hid (∀ j, j < n → w3.cell? ⟨g, 0 + j, none⟩ = some (.string (ls.getD ((ring n (turn % pts n)).getD j 0) ByteArray.empty))) := hg3
  have h2' := pts_pos n (by omega)
  have hp : turn % pts n < pts n := Nat.mod_lt _ (by omega)
  clear hg3 hL2 hM2 hb2
  go_wp2_with fail
  refine (perm_ring g cp n _ ls _ (by omega) (by omega) hp hg2 HL.out HG.out).mono ?_
  rintro e w4 ⟨rfl, hX4, hb4⟩
  have hM4 := hM3.below hb4 hM3.lt
  have hb4 := hb3.trans (hb4.mono hb3.size)
  have hrl := ring_length (show 2 ≤ n by omega) hp
  have x0 := blk_int hX4 0 (by omega)
  rw [show (ring n (turn % pts n)).getD 0 0 = 0 from rfl] at x0
  clear HG hM3 hb3
  go_wp2_with fail
  refine (Ring.zzRing _ 0 n n turn ss _ (by omega) (by omega) ht hM4.lt (blk_cells hM4 hl.out)).mono ?_
  rintro e w5 ⟨g', cp', rfl, hg1', hg2', hg3', hb5⟩
  have hM5 := hM4.below hb5 hM4.lt
  have hX5 := hX4.below hb5 hX4.lt
  have hb5 := hb4.trans (hb5.mono hb4.size)
  have HG : Hid (∀ j, j < n → w5.cell? ⟨g', 0 + j, none⟩ = some (.string (ss.getD ((ring n (turn % pts n)).getD j 0) ByteArray.empty))) := hg3'
  clear hg3' hM4 hX4 hb4 x0
  go_wp2_with fail
  go_loopw [9] (fun i wr => ∃ (k q : Nat), k ≤ n ∧ i = .int .i64 k ∧ Hid (wr = w5.drewN q)) (fun i _ => n - (intOf i).toNat)
  case atStart => exact ⟨0, 0, Nat.zero_le _, rfl, rfl⟩
  case round =>
    obtain ⟨k, q, hk, rfl, HW⟩ := hrel
    by_cases hlt : k < n
    · have o1 := HG.out k hlt
      rw [Nat.zero_add] at o1
      have x1 := blk_int hX5 k (by omega)
      have a1 := ring_at_lt (show 2 ≤ n by omega) hp hlt
      have m1 := strs_at hM5 hl.out _ a1
      obtain ⟨m, HMM⟩ : ∃ x, Hid (x = (ring n (turn % pts n)).getD k 0) := ⟨_, rfl⟩
      rw [← HMM.out] at o1 x1 a1 m1
      obtain ⟨s, HS⟩ : ∃ x, Hid (x = ss.getD m ByteArray.empty) := ⟨_, rfl⟩
      rw [← HS.out] at o1 m1
      have hW := HW.out
      have o2 : wr.cell? ⟨g', k, none⟩ = some (.string s) := by rw [hW]; exact o1
      have x2 : wr.cell? ⟨w3.heap.size, k, none⟩ = some (.int .i64 (m : Int)) := by rw [hW]; exact x1
      have m2 : wr.cell? ⟨w'.heap.size, m, none⟩ = some (.string s) := by rw [hW]; exact m1
      have l1 : (k : Int) < (n : Int) := by omega
      have l0 : (0 : Int) ≤ (k : Int) := by omega
      have n1 : (m : Int) < (n : Int) := by omega
      have n0 : (0 : Int) ≤ (m : Int) := by omega
      clear o1 x1 m1 hW
      go_wp2_with fail
      go_quiet (fail)
      go_wp2_with fail
      go_roundw
      case rel => exact ⟨k + 1, _, by omega, by go_num, by unfold Hid; rw [HW.out, World.drewN_drewN]⟩
      case measure => simp [intOf]; omega
    · go_wp2_with fail
      go_ret
      exact ⟨rfl, by rw [HW.out]; exact below_drewN hb5 _⟩

end Go.Proofs.Qxb6001298a.Reorder
