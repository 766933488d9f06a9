/-
  THE WALKS of ceilDiv, floorMod, until, ZZUntil: each computes a plain function (Qxb6001005aPlain).
-/
import Derived.Test.Qxb6001005aRows
import Derived.Test.Qxb6001005aPlain
import Derived.WalkKit
import Derived.ProofKit
import Derived.Outline
namespace Go.Proofs.Qxb6001005a.Until
open Go.RowKit
open Plain

theorem ret_int {k : IntKind} {a b : Int} (h : a = b) : Ending.returned (.int k a) = .returned (.int k b) := by rw [h]

set_option maxHeartbeats 400000 in
theorem ceilDiv (a b : Int) (w : World) (ha : 0 ≤ a) (ha' : a ≤ 4611686018428387904) (hb : 1 ≤ b) :
    Calls Try.prog 26 #[.int .i64 a, .int .i64 b] w fun e w' => e = .returned (.int .i64 (cdiv a b)) ∧ w' = w := by
  have hd := div_bounds a b ha hb
  obtain ⟨hd1, hd2⟩ := hd
  by_cases hm : a % b = 0
  · have H : Hid (cdiv a b = a / b) := cdiv_zero a b hm
    go_enter Try.func26, Try.ntmps26
    go_wp2
    go_ret
    exact ⟨ret_int (H.out).symm, rfl⟩
  · have H : Hid (cdiv a b = a / b + 1) := cdiv_more a b hm
    go_enter Try.func26, Try.ntmps26
    go_wp2
    go_ret
    exact ⟨ret_int (H.out).symm, rfl⟩

theorem floor_neg (a : Int) (h : a.tmod 1000000 < 0) : a % 1000000 = a.tmod 1000000 + 1000000 := by
  rw [Int.tmod_eq_emod] at h ⊢
  split at h <;> split <;> simp_all <;> omega
theorem floor_pos (a : Int) (h : ¬ a.tmod 1000000 < 0) : a % 1000000 = a.tmod 1000000 := by
  rw [Int.tmod_eq_emod] at h ⊢
  split at h <;> split <;> simp_all <;> omega
theorem tmod_bounds (a : Int) : -1000000 < a.tmod 1000000 ∧ a.tmod 1000000 < 1000000 := by
  rw [Int.tmod_eq_emod]
  split <;> (try simp) <;> omega

set_option maxHeartbeats 400000 in
theorem floorMod (a : Int) (w : World) :
    Calls Try.prog 27 #[.int .i64 a, .int .i64 1000000] w fun e w' => e = .returned (.int .i64 (a % 1000000)) ∧ w' = w := by
  obtain ⟨b1, b2⟩ := tmod_bounds a
  by_cases hm : a.tmod 1000000 < 0
  · have H : Hid (a % 1000000 = a.tmod 1000000 + 1000000) := floor_neg a hm
    go_enter Try.func27, Try.ntmps27
    go_wp2
    go_ret
    exact ⟨ret_int (H.out).symm, rfl⟩
  · have H : Hid (a % 1000000 = a.tmod 1000000) := floor_pos a hm
    go_enter Try.func27, Try.ntmps27
    go_wp2
    go_ret
    exact ⟨ret_int (H.out).symm, rfl⟩

theorem whole_eq (since : Int) : (since - since % 1000000).tdiv 1000000 = (since - since % 1000000) / 1000000 := by
  obtain ⟨q, hq⟩ : ∃ q, since - since % 1000000 = q * 1000000 := ⟨since / 1000000, by omega⟩
  rw [hq, Int.mul_tdiv_cancel _ (by decide), Int.mul_ediv_cancel _ (by decide)]

/- until: whatever the bucket's capacity and the usage's 'used'. -/
set_option maxHeartbeats 400000 in
theorem until_any (rate cap since ticks : Int) (b : Nat) (w : World) (hr : 1 ≤ rate) (ht : 0 ≤ ticks) (ht' : ticks ≤ 4611686018427387904)
    (hs : -9223372036853775808 ≤ since) (hs' : since ≤ 9223372036854775807) (hc : w.cell? ⟨b, 0, none⟩ = some (.int .i64 since)) :
    Calls Try.prog 23 #[.agg #[.int .i64 rate, .int .i64 cap], .pointer (some ⟨b, 0, none⟩), .int .i64 ticks] w fun e w' =>
      e = .returned (.tuple #[.int .i64 (secs (cdiv ticks rate)), .int .i64 (atT since (cdiv ticks rate))]) ∧ Below w.heap.size w w' := by
  obtain ⟨m1, m2⟩ := cdiv_bounds ticks rate ht hr
  have hb : b < w.heap.size := World.block_lt_of_cell? w _ hc
  go_enter Try.func23, Try.ntmps23
  go_wp2_with fail
  refine (ceilDiv _ _ _ (by omega) (by omega) (by omega)).mono ?_
  rintro e w' ⟨rfl, rfl⟩
  go_wp2_with fail
  refine (floorMod _ _).mono ?_
  rintro e w' ⟨rfl, rfl⟩
  go_wp2_with fail
  rw [whole_eq since]
  refine (ceilDiv _ _ _ (by omega) (by omega) (by omega)).mono ?_
  rintro e w' ⟨rfl, rfl⟩
  go_wp2_with fail
  refine (ceilDiv _ _ _ (by omega) (by omega) (by omega)).mono ?_
  rintro e w' ⟨rfl, rfl⟩
  obtain ⟨n1, n2⟩ := cdiv_bounds (since % 1000000 + cdiv ticks rate) 1000000 (by omega) (by omega)
  go_wp2_with fail
  go_ret2
  exact ⟨rfl, (Below.refl _ _).alloc (Nat.le_refl _) _⟩

/- ZZUntil -/
set_option maxHeartbeats 400000 in
theorem zzUntil (rate cap since used ticks : Int) (w : World) (hr : 1 ≤ rate) (ht : 0 ≤ ticks) (ht' : ticks ≤ 4611686018427387904)
    (hs : -9223372036853775808 ≤ since) (hs' : since ≤ 9223372036854775807) :
    Calls Try.prog 11 #[.int .i64 rate, .int .i64 cap, .int .i64 since, .int .i64 used, .int .i64 ticks] w fun e w' =>
      e = .returned (.tuple #[.int .i64 (secs (cdiv ticks rate)), .int .i64 (atT since (cdiv ticks rate))]) ∧ Below w.heap.size w w' := by
  go_enter Try.func11, Try.ntmps11
  go_wp2_with fail
  refine (until_any _ _ _ _ _ _ hr ht ht' hs hs' (by simp)).mono ?_
  rintro e w' ⟨rfl, hb⟩
  go_wp2_with fail
  go_ret2
  exact ⟨rfl, ((Below.refl _ _).alloc (Nat.le_refl _) _).trans (hb.mono (by simp))⟩

end Go.Proofs.Qxb6001005a.Until
