/-
  THE WALK of FnPlaceFillsFirstEmptyFromHome, over the contracts of lawPow2, lawZeros, lawClone, ZZPlace.
-/
import Derived.Test.Qxb6001005aPlace
import Derived.BigQuiet
import Derived.Deep.QuietTactic
import Derived.WalkSmall
namespace Go.Proofs.Qxb6001005a.Fills
open Go.RowKit
open Plain
open _root_.Go.Proofs.Qxb6001005a.Place

set_option maxHeartbeats 400000 in
theorem bytes_ok (ao : Option Addr) (len cap : Nat) (n h : Int) (w : World) (hl : len ≤ 1048576) :
    Calls Try.prog 16 #[.slice ao len cap, .int .u32 n, .int .u64 h] w fun e w' => e = .returned (.bool true) ∧ w' = w := by
  go_enter Try.func16, Try.ntmps16
  go_wp2
  go_ret
  exact ⟨rfl, rfl⟩

set_option maxHeartbeats 400000 in
theorem bytes_far (ao : Option Addr) (len cap : Nat) (n h : Int) (w : World) (hl : 1048576 < len) (hl2 : len ≤ 9223372036854775807) :
    Calls Try.prog 16 #[.slice ao len cap, .int .u32 n, .int .u64 h] w fun e w' => e = .returned (.bool false) ∧ w' = w := by
  go_enter Try.func16, Try.ntmps16
  go_wp2
  go_ret
  exact ⟨rfl, rfl⟩

/-- What 'changed' holds behind k rounds. -/
def chg (j k : Nat) : Int := if k ≤ j then -1 else j
theorem chg_lo (j : Nat) : chg j j = -1 := by simp [chg]
theorem chg_hit (j : Nat) : chg j (j + 1) = j := by simp [chg]
theorem chg_miss (j k : Nat) (h : k ≠ j) : chg j (k + 1) = chg j k := by
  unfold chg
  by_cases hk : k ≤ j
  · rw [if_pos hk, if_pos (by omega)]
  · rw [if_neg hk, if_neg (by omega)]
theorem chg_end (j N : Nat) (h : j < N) : chg j N = j := by unfold chg; rw [if_neg (by omega)]

/-- the home's distance comes back out of the difference. -/
theorem dist_back (m N p d : Nat) (hN : N = 2 ^ m) (hN' : N ≤ 65536) (hp : p < N) (hd : d < N) (x : Int)
    (hx : x = (((p + d) % N : Nat) : Int) - p) : (x % 18446744073709551616).toNat % N = d := by
  have hm : m ≤ 16 := by
    rcases Nat.lt_or_ge 16 m with h | h
    · have : 2 ^ 17 ≤ 2 ^ m := Nat.pow_le_pow_right (by decide) h
      omega
    · exact h
  have hdvd : N ∣ 18446744073709551616 := by rw [hN]; exact ⟨2 ^ (64 - m), by rw [← Nat.pow_add, show m + (64 - m) = 64 by omega]⟩
  obtain ⟨q, hq⟩ := hdvd
  by_cases hc : p + d < N
  · rw [Nat.mod_eq_of_lt hc] at hx
    have : x % 18446744073709551616 = (d : Int) := by omega
    rw [this, Int.toNat_natCast, Nat.mod_eq_of_lt hd]
  · have e : (p + d) % N = p + d - N := by rw [Nat.mod_eq_sub_mod (by omega), Nat.mod_eq_of_lt (by omega)]
    rw [e] at hx
    have h1 : x % 18446744073709551616 = ((d + (18446744073709551616 - N) : Nat) : Int) := by omega
    have h2 : 18446744073709551616 - N = N * (q - 1) := by rw [Nat.mul_sub, ← hq, Nat.mul_one]
    rw [h1, Int.toNat_natCast, h2, Nat.add_mul_mod_self_left, Nat.mod_eq_of_lt hd]

set_option maxHeartbeats 1000000 in
theorem main (b off cap m : Nat) (zs : List Int) (n h : Int) (w : World) (N : Nat) (hzl : Hid (zs.length = N)) (HM : Hid (N = 2 ^ m)) (hN : N ≤ 65536)
    (hn : 0 ≤ n) (hn' : n < 4294967295) (hh : 0 ≤ h) (hh' : h < 18446744073709551616) (hz : 0 < zeros zs) (hb : b < w.heap.size)
    (hc : Hid (∀ i, i < N → w.cell? ⟨b, off + i, none⟩ = some (.int .u32 (zs.getD i 0)))) :
    Calls Try.prog 8 #[.slice (some ⟨b, off, none⟩) N cap, .int .u32 n, .int .u64 h] w fun e w' => e = .returned (.bool true) ∧ Below w.heap.size w w' := by
  have hp : 0 < N := by rw [HM.out]; exact Nat.two_pow_pos m
  obtain ⟨Z, HZ⟩ : ∃ Z, Hid (Z = zeros zs) := ⟨_, rfl⟩
  have hz1 : 0 < Z := by rw [HZ.out]; exact hz
  have HZ0 : Hid (0 < zeros zs) := hz
  clear hz
  go_enter Try.func8, Try.ntmps8
  go_wp2_with fail
  refine (bytes_ok _ _ _ _ _ _ (by omega)).mono ?_
  rintro e w' ⟨rfl, rfl⟩
  go_wp2_with fail
  refine (pow2_yes N m _ (by omega) HM.out).mono ?_
  rintro e w' ⟨rfl, rfl⟩
  go_wp2_with fail
  refine (zerosN N b off cap zs _ hzl.out (by omega) hc.out).mono ?_
  rintro e w' ⟨rfl, rfl⟩
  rw [← HZ.out]
  go_wp2_with fail
  refine (cloneN N b off cap zs _ hzl.out (by omega) hb hc.out).mono ?_
  rintro e w1 ⟨rfl, ht1, hb1⟩
  go_wp2_with fail
  refine (cloneN N _ 0 N zs _ hzl.out (by omega) ht1.lt (ht1.cellN hzl.out)).mono ?_
  rintro e w2 ⟨rfl, ht2, hb2⟩
  have ht1' := ht1.below hb2 ht1.lt
  go_wp2_with fail
  refine (zzPlaceN N _ m zs _ h _ hzl.out HM.out (by omega) hn hn' hh hh' ht2 HZ0.out).mono ?_
  rintro e w3 ⟨rfl, d, hfe, ht3, hg3⟩
  have hne12 : w'.heap.size < w1.heap.size := ht1.lt
  have ht1'' : Tab w3 w'.heap.size zs := ht1'.kept (hg3.block _ ht1'.lt (by simp; omega))
  have hb3 : Below w'.heap.size w' w3 := (hb1.trans (hb2.mono hb1.size)).grown hg3 (Nat.le_trans hb1.size hb2.size) (by simp; omega)
  have e1 := and_mask h m N HM.out (by omega) hh hh'
  have hlt0 : h.toNat % N < N := Nat.mod_lt _ hp
  obtain ⟨f1, f2, f3⟩ := hfe
  rw [hzl.out] at f1 f2 f3
  obtain ⟨p0, HP⟩ : ∃ p, Hid (p = h.toNat % N) := ⟨_, rfl⟩
  have hjl : (h.toNat + d) % N < N := Nat.mod_lt _ hp
  obtain ⟨j, HJ⟩ : ∃ p, Hid (p = (h.toNat + d) % N) := ⟨_, rfl⟩
  rw [← HP.out] at e1 hlt0
  rw [← HJ.out] at f2 ht3 hjl
  have F2 : Hid (zs.getD j 0 = 0) := f2
  have F3 : Hid (∀ e, e < d → zs.getD ((h.toNat + e) % N) 0 ≠ 0) := f3
  have HL : Hid ((zs.set j (n + 1)).length = N) := by unfold Hid; rw [List.length_set]; exact hzl.out
  have HJ2 : Hid (j = (p0 + d) % N) := by unfold Hid; rw [HP.out, Nat.mod_add_mod]; exact HJ.out
  clear f2 f3 ht1 ht2 ht1' hb1 hb2 hg3 hc
  go_wp2_with fail
  go_loopw [10, 11] (fun c i wr => ∃ k : Nat, k ≤ N ∧ i = .int .i64 k ∧ c = .int .i64 (chg j k) ∧ Tab wr w'.heap.size zs ∧ Tab wr w1.heap.size (zs.set j (n + 1)) ∧ Below w'.heap.size w' wr) (fun _ i _ => N - (intOf i).toNat)
  case atStart => exact ⟨0, Nat.zero_le _, rfl, by simp [chg], ht1'', ht3, hb3⟩
  case round =>
    obtain ⟨k, hk, rfl, rfl, hta, htb, hbel⟩ := hrel
    by_cases hlt : k < N
    · have ca := hta.cell k (by rw [hzl.out]; exact hlt)
      have cb := htb.cell k (by rw [HL.out]; exact hlt)
      have l1 : (k : Int) < (N : Int) := by omega
      have l0 : (0 : Int) ≤ (k : Int) := by omega
      by_cases hkj : k = j
      · subst hkj
        rw [F2.out] at ca
        rw [getD_set _ _ _ _ (by rw [hzl.out]; exact hlt), if_pos rfl] at cb
        have HC : Hid (chg k (k + 1) = k) := chg_hit k
        rw [chg_lo]
        go_wp2_with fail
        go_quiet (fail)
        go_wp2_with fail
        go_roundw
        case rel => exact ⟨k + 1, by omega, by go_num, by rw [HC.out], hta, htb, below_drewN hbel _⟩
        case measure => simp [intOf]; omega
      · rw [getD_set _ _ _ _ (by rw [hzl.out]; exact hjl), if_neg (Ne.symm hkj)] at cb
        have HC : Hid (chg j (k + 1) = chg j k) := chg_miss j k hkj
        generalize zs.getD k 0 = v at ca cb
        generalize chg j k = x at HC
        go_wp2_with fail
        go_quiet (fail)
        go_wp2_with fail
        go_roundw
        case rel => exact ⟨k + 1, by omega, by go_num, by rw [HC.out], hta, htb, below_drewN hbel _⟩
        case measure => simp [intOf]; omega
    · obtain rfl : N = k := by omega
      rw [chg_end j N hjl]
      have ca := hta.cell j (by rw [hzl.out]; exact hjl)
      have cb := htb.cell j (by rw [HL.out]; exact hjl)
      rw [F2.out] at ca
      rw [getD_set _ _ _ _ (by rw [hzl.out]; exact hjl), if_pos rfl] at cb
      have eD : bits .and .u64 (IntKind.u64.wrap ((j : Int) - (p0 : Int))) ((N : Int) - 1) = (d : Int) := by
        rw [IntKind.wrap_u64, and_mask _ m N HM.out (by omega) (by omega) (by omega), dist_back m N p0 d HM.out hN hlt0 f1 _ (by rw [← HJ2.out])]
      go_wp2_with fail
      clear eD ca cb htb ht3 ht1'' hb3 e1
      go_loop [13] (fun i => ∃ s : Nat, s ≤ d ∧ i = .int .u64 s) (fun i => d - (intOf i).toNat)
      case atStart => exact ⟨0, Nat.zero_le _, rfl⟩
      case round =>
        obtain ⟨s, hs, rfl⟩ := hrel
        by_cases hsd : s < d
        · have e2 := and_mask ((p0 : Int) + (s : Int)) m N HM.out (by omega) (by omega) (by omega)
          have e3 : ((p0 : Int) + (s : Int)).toNat = p0 + s := by omega
          rw [e3] at e2
          have hql : (p0 + s) % N < N := Nat.mod_lt _ hp
          have hne : zs.getD ((p0 + s) % N) 0 ≠ 0 := by
            have := F3.out s hsd
            rw [HP.out, Nat.mod_add_mod]; exact this
          generalize (p0 + s) % N = q at e2 hql hne
          have cq := hta.cell q (by rw [hzl.out]; exact hql)
          generalize zs.getD q 0 = v at cq hne
          clear e3
          go_wp2_with fail
          go_round
          case rel => exact ⟨s + 1, by omega, by go_num⟩
          case measure => simp [intOf]; omega
        · go_wp2_with fail
          go_ret
          exact ⟨rfl, hbel⟩

end Go.Proofs.Qxb6001005a.Fills
