/-
  THE WALK of FnPlaceOccupancyOrderFree, over the contracts of lawPow2, lawZeros, lawClone, ZZPlace.
-/
import Derived.Test.Qxb6001005aPlace
import Derived.BigQuiet
import Derived.Deep.QuietTactic
import Derived.WalkSmall
namespace Go.Proofs.Qxb6001005a.Order
open Go.RowKit
open Plain
open _root_.Go.Proofs.Qxb6001005a.Place

set_option maxHeartbeats 400000 in
theorem bytes_ok (ao : Option Addr) (len cap : Nat) (n n' h h' : Int) (w : World) (hl : len ≤ 1048576) :
    Calls Try.prog 22 #[.slice ao len cap, .int .u32 n, .int .u32 n', .int .u64 h, .int .u64 h'] w fun e w' => e = .returned (.bool true) ∧ w' = w := by
  go_enter Try.func22, Try.ntmps22
  go_wp2
  go_ret
  exact ⟨rfl, rfl⟩

set_option maxHeartbeats 400000 in
theorem bytes_far (ao : Option Addr) (len cap : Nat) (n n' h h' : Int) (w : World) (hl : 1048576 < len) (hl2 : len ≤ 9223372036854775807) :
    Calls Try.prog 22 #[.slice ao len cap, .int .u32 n, .int .u32 n', .int .u64 h, .int .u64 h'] w fun e w' => e = .returned (.bool false) ∧ w' = w := by
  go_enter Try.func22, Try.ntmps22
  go_wp2
  go_ret
  exact ⟨rfl, rfl⟩

/-- one placing leaves a row of the same length, one slot fewer empty. -/
theorem placed {zs : List Int} {N h d : Nat} {v : Int} (hl : zs.length = N) (hv : v ≠ 0) (hfe : FE zs h d) :
    (zs.set ((h + d) % N) v).length = N ∧ zeros (zs.set ((h + d) % N) v) + 1 = zeros zs := by
  subst hl
  have hp : 0 < zs.length := by have := hfe.1; omega
  exact ⟨by simp, zeros_set zs _ v (Nat.mod_lt _ hp) hfe.2.1 hv⟩

set_option maxHeartbeats 2000000 in
theorem main (b off cap m : Nat) (zs : List Int) (x y h k : Int) (w : World) (N : Nat) (hzl : Hid (zs.length = N)) (HM : Hid (N = 2 ^ m)) (hN : N ≤ 65536)
    (hx : 0 ≤ x) (hx' : x < 4294967295) (hy : 0 ≤ y) (hy' : y < 4294967295) (hh : 0 ≤ h) (hh' : h < 18446744073709551616) (hk : 0 ≤ k) (hk' : k < 18446744073709551616) (hz : 2 ≤ zeros zs) (hb : b < w.heap.size)
    (hc : Hid (∀ i, i < N → w.cell? ⟨b, off + i, none⟩ = some (.int .u32 (zs.getD i 0)))) :
    Calls Try.prog 10 #[.slice (some ⟨b, off, none⟩) N cap, .int .u32 x, .int .u32 y, .int .u64 h, .int .u64 k] w fun e w' => e = .returned (.bool true) ∧ Below w.heap.size w w' := by
  have hp : 0 < N := by rw [HM.out]; exact Nat.two_pow_pos m
  obtain ⟨Z, HZ⟩ : ∃ Z, Hid (Z = zeros zs) := ⟨_, rfl⟩
  have hz1 : 2 ≤ Z := by rw [HZ.out]; exact hz
  have hzN : Z ≤ N := by rw [HZ.out, ← hzl.out]; exact zeros_le zs
  have HZ0 : Hid (2 ≤ zeros zs) := hz
  have hxe : (x == 4294967295) = false := beq_eq_false_iff_ne.2 (by omega)
  have hye : (y == 4294967295) = false := beq_eq_false_iff_ne.2 (by omega)
  clear hz
  go_enter Try.func10, Try.ntmps10
  go_wp2_with fail
  refine (bytes_ok _ _ _ _ _ _ _ _ (by omega)).mono ?_
  rintro e w' ⟨rfl, rfl⟩
  go_wp2_with fail
  refine (pow2_yes N m _ (by omega) HM.out).mono ?_
  rintro e w' ⟨rfl, rfl⟩
  go_wp2_with fail
  refine (zerosN N b off cap zs _ hzl.out (by omega) hc.out).mono ?_
  rintro e w' ⟨rfl, rfl⟩
  rw [← HZ.out]
  go_wp2_with fail
  refine (cloneN N b off cap zs _ hzl.out (by omega) hb hc.out).mono ?_
  rintro e w1 ⟨rfl, t1, b1⟩
  go_wp2_with fail
  refine (cloneN N _ 0 N zs _ hzl.out (by omega) t1.lt (t1.cellN hzl.out)).mono ?_
  rintro e w2 ⟨rfl, t2, b2⟩
  have s1 := t1.lt
  have t1 := t1.below b2 t1.lt
  have b2 := b1.trans (b2.mono b1.size)
  go_wp2_with fail
  refine (zzPlaceN N _ m zs _ h _ hzl.out HM.out (by omega) hx hx' hh hh' t2 (by have := HZ0.out; omega)).mono ?_
  rintro e w3 ⟨rfl, d1, f1, t3, g3⟩
  have P1 := placed hzl.out (show x + 1 ≠ 0 by omega) f1
  have z1 := P1.2
  have HL1 : Hid ((zs.set ((h.toNat + d1) % N) (x + 1)).length = N) := P1.1
  have t1 : Tab w3 w'.heap.size zs := t1.kept (g3.block _ t1.lt (by simp; omega))
  have b3 := b2.grown g3 b2.size (by simp; omega)
  obtain ⟨us, HU⟩ : ∃ us, Hid (us = zs.set ((h.toNat + d1) % N) (x + 1)) := ⟨_, rfl⟩
  rw [← HU.out] at HL1 t3 z1
  have HF1 : Hid (FE zs h.toNat d1) := f1
  have HZ1 : Hid (zeros us + 1 = zeros zs) := z1
  clear P1 f1 z1 g3
  go_wp2_with fail
  refine (zzPlaceN N _ m us _ k _ HL1.out HM.out (by omega) hy hy' hk hk' t3 (by have := HZ0.out; have := HZ1.out; omega)).mono ?_
  rintro e w4 ⟨rfl, d2, f2, t4, g4⟩
  have P2 := placed HL1.out (show y + 1 ≠ 0 by omega) f2
  have z2 := P2.2
  have HL2 : Hid ((us.set ((k.toNat + d2) % N) (y + 1)).length = N) := P2.1
  have t1 : Tab w4 w'.heap.size zs := t1.kept (g4.block _ t1.lt (by simp; omega))
  have b4 := b3.grown g4 b3.size (by simp; omega)
  obtain ⟨vs, HV⟩ : ∃ vs, Hid (vs = us.set ((k.toNat + d2) % N) (y + 1)) := ⟨_, rfl⟩
  rw [← HV.out] at HL2 t4 z2
  have HF2 : Hid (FE us k.toNat d2) := f2
  have HZ2 : Hid (zeros vs + 1 = zeros us) := z2
  clear P2 f2 z2 g4
  go_wp2_with fail
  refine (cloneN N _ 0 N zs _ hzl.out (by omega) t1.lt (t1.cellN hzl.out)).mono ?_
  rintro e w5 ⟨rfl, t5, b5⟩
  have s4 := t4.lt
  have t1 := t1.below b5 t1.lt
  have t4 := t4.below b5 t4.lt
  have b5 := b4.trans (b5.mono b4.size)
  go_wp2_with fail
  refine (zzPlaceN N _ m zs _ k _ hzl.out HM.out (by omega) hy hy' hk hk' t5 (by have := HZ0.out; omega)).mono ?_
  rintro e w6 ⟨rfl, d3, f3, t6, g6⟩
  have P3 := placed hzl.out (show y + 1 ≠ 0 by omega) f3
  have z3 := P3.2
  have HL3 : Hid ((zs.set ((k.toNat + d3) % N) (y + 1)).length = N) := P3.1
  have t1 : Tab w6 w'.heap.size zs := t1.kept (g6.block _ t1.lt (by simp; omega))
  have t4 : Tab w6 w1.heap.size vs := t4.kept (g6.block _ t4.lt (by simp; omega))
  have b6 := b5.grown g6 b5.size (by simp; omega)
  obtain ⟨ps, HPs⟩ : ∃ ps, Hid (ps = zs.set ((k.toNat + d3) % N) (y + 1)) := ⟨_, rfl⟩
  rw [← HPs.out] at HL3 t6 z3
  have HF3 : Hid (FE zs k.toNat d3) := f3
  have HZ3 : Hid (zeros ps + 1 = zeros zs) := z3
  clear P3 f3 z3 g6
  go_wp2_with fail
  refine (zzPlaceN N _ m ps _ h _ HL3.out HM.out (by omega) hx hx' hh hh' t6 (by have := HZ0.out; have := HZ3.out; omega)).mono ?_
  rintro e w7 ⟨rfl, d4, f4, t7, g7⟩
  have P4 := placed HL3.out (show x + 1 ≠ 0 by omega) f4
  have HL4 : Hid ((ps.set ((h.toNat + d4) % N) (x + 1)).length = N) := P4.1
  have t1 : Tab w7 w'.heap.size zs := t1.kept (g7.block _ t1.lt (by simp; omega))
  have t4 : Tab w7 w1.heap.size vs := t4.kept (g7.block _ t4.lt (by simp; omega))
  have b7 := b6.grown g7 b6.size (by simp; omega)
  obtain ⟨qs, HQ⟩ : ∃ qs, Hid (qs = ps.set ((h.toNat + d4) % N) (x + 1)) := ⟨_, rfl⟩
  rw [← HQ.out] at HL4 t7
  have HS : Hid (∀ i, vs.getD i 0 = 0 ↔ qs.getD i 0 = 0) := by
    intro i
    have F1 := HF1.out
    have F2 := HF2.out
    have F3 := HF3.out
    have F4 := f4
    rw [HU.out, ← hzl.out] at F2
    rw [HPs.out, ← hzl.out] at F4
    rw [HV.out, HU.out, HQ.out, HPs.out, ← hzl.out]
    exact order_free (by omega) (by omega) F1 F2 F3 F4 i
  have HZV : Hid (zeros vs + 2 = Z) := by
    have := HZ1.out
    have := HZ2.out
    unfold Hid
    rw [HZ.out]; omega
  clear P4 f4 g7
  go_wp2_with fail
  go_loopw [13] (fun i wr => ∃ c : Nat, c ≤ N ∧ i = .int .i64 c ∧ Tab wr w'.heap.size zs ∧ Tab wr w1.heap.size vs ∧ Tab wr w4.heap.size qs ∧ Below w'.heap.size w' wr) (fun i _ => N - (intOf i).toNat)
  case atStart => exact ⟨0, Nat.zero_le _, rfl, t1, t4, t7, b7⟩
  case round =>
    obtain ⟨c, hc, rfl, hta, htb, htc, hbel⟩ := hrel
    by_cases hlt : c < N
    · have cb := htb.cell c (by rw [HL2.out]; exact hlt)
      have cc := htc.cell c (by rw [HL4.out]; exact hlt)
      have l1 : (c : Int) < (N : Int) := by omega
      have l0 : (0 : Int) ≤ (c : Int) := by omega
      have hs := HS.out c
      generalize vs.getD c 0 = v at cb hs
      generalize qs.getD c 0 = q at cc hs
      by_cases hv : v = 0
      · have hq : q = 0 := hs.1 hv
        subst hv
        subst hq
        clear hs
        go_wp2_with fail
        go_quiet (fail)
        go_wp2_with fail
        go_roundw
        case rel => exact ⟨c + 1, by omega, by go_num, hta, htb, htc, below_drewN hbel _⟩
        case measure => simp [intOf]; omega
      · have hv' : (v == 0) = false := beq_eq_false_iff_ne.2 hv
        have hq' : (q == 0) = false := beq_eq_false_iff_ne.2 (fun e => hv (hs.2 e))
        clear hs hv
        go_wp2_with fail
        go_quiet (fail)
        go_wp2_with fail
        go_roundw
        case rel => exact ⟨c + 1, by omega, by go_num, hta, htb, htc, below_drewN hbel _⟩
        case measure => simp [intOf]; omega
    · obtain ⟨V, HVV⟩ : ∃ V, Hid (V = zeros vs) := ⟨_, rfl⟩
      have hV : V + 2 ≤ Z := by rw [HVV.out]; exact Nat.le_of_eq HZV.out
      have hV' : Z ≤ V + 2 := by rw [HVV.out]; exact Nat.le_of_eq HZV.out.symm
      have hfin : ((V : Int) == (Z : Int) - 2) = true := beq_iff_eq.2 (by omega)
      go_wp2_with fail
      refine (zerosN N _ 0 N vs _ HL2.out (by omega) (htb.cellN HL2.out)).mono ?_
      rintro e w8 ⟨rfl, rfl⟩
      rw [← HVV.out]
      go_wp2_with fail
      refine (zerosN N _ 0 N zs _ hzl.out (by omega) (hta.cellN hzl.out)).mono ?_
      rintro e w9 ⟨rfl, rfl⟩
      rw [← HZ.out]
      go_wp2_with fail
      go_ret
      exact ⟨rfl, hbel⟩

end Go.Proofs.Qxb6001005a.Order
