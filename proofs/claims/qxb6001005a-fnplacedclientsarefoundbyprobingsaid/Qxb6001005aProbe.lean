/-
  THE WALK of FnPlacedClientsAreFoundByProbing, over the contracts of ZZPlace and lawZeros.
-/
import Derived.Test.Qxb6001005aPlace
namespace Go.Proofs.Qxb6001005a.Probe
open Go.RowKit
open Plain
open _root_.Go.Proofs.Qxb6001005a.Place

set_option maxHeartbeats 400000 in
theorem bytes_ok (ao : Option Addr) (len cap : Nat) (e : Int) (w : World) (hl : len ≤ 1048576) :
    Calls Try.prog 21 #[.slice ao len cap, .int .u8 e] w fun e w' => e = .returned (.bool true) ∧ w' = w := by
  go_enter Try.func21, Try.ntmps21
  go_wp2
  go_ret
  exact ⟨rfl, rfl⟩

set_option maxHeartbeats 400000 in
theorem bytes_far (ao : Option Addr) (len cap : Nat) (e : Int) (w : World) (hl : 1048576 < len) (hl2 : len ≤ 9223372036854775807) :
    Calls Try.prog 21 #[.slice ao len cap, .int .u8 e] w fun e w' => e = .returned (.bool false) ∧ w' = w := by
  go_enter Try.func21, Try.ntmps21
  go_wp2
  go_ret
  exact ⟨rfl, rfl⟩

theorem size_of (S : Nat) (e : Int) (hj : ∃ j, S = 2 ^ j) (hS : S ≤ 16384) (he0 : 0 ≤ e) (he : e ≤ 4) :
    ∃ N : Nat, wrap64 ((S : Int) * 2 ^ e.toNat) = (N : Int) ∧ (∃ m, N = 2 ^ m) ∧ S ≤ N ∧ N ≤ 262144 := by
  obtain ⟨j, hj⟩ := hj
  obtain ⟨n, rfl⟩ := Int.eq_ofNat_of_zero_le he0
  have h2 : (2 : Nat) ^ n ≤ 2 ^ 4 := Nat.pow_le_pow_right (by decide) (by omega)
  have h1 : 1 ≤ (2 : Nat) ^ n := Nat.two_pow_pos n
  have e3 : ((S : Int) * 2 ^ ((n : Int)).toNat) = ((S * 2 ^ n : Nat) : Int) := by
    rw [Int.toNat_natCast, Int.natCast_mul, Int.natCast_pow]; rfl
  have h3 : S * 2 ^ n ≤ 16384 * 2 ^ 4 := Nat.mul_le_mul hS h2
  refine ⟨S * 2 ^ n, ?_, ⟨j + n, by rw [hj, Nat.pow_add]⟩, Nat.le_mul_of_pos_right _ h1, by omega⟩
  rw [e3]
  exact IntWalk.wrap64_in _ (by omega)

set_option maxHeartbeats 1000000 in
theorem main (ao : Option Addr) (b off cap : Nat) (hs : List Int) (e : Int) (w : World) (hl : hs.length ≤ 4096) (he0 : 0 ≤ e) (he : e ≤ 4)
    (hao : 0 < hs.length → ao = some ⟨b, off, none⟩) (hb : 0 < hs.length → b < w.heap.size)
    (hc : ∀ i, i < hs.length → w.cell? ⟨b, off + i, none⟩ = some (.int .u64 (hs.getD i 0)))
    (hr : ∀ i, i < hs.length → 0 ≤ hs.getD i 0 ∧ hs.getD i 0 < 18446744073709551616) :
    Calls Try.prog 9 #[.slice ao hs.length cap, .int .u8 e] w fun e w' => e = .returned (.bool true) ∧ Below w.heap.size w w' := by
  obtain ⟨i0, hi, hz0, hz1, hz2⟩ := info_parts info32
  go_enter Try.func9, Try.ntmps9
  go_wp2_with (go_at_call 21; refine (bytes_ok _ _ _ _ _ (by omega)).mono ?_; rintro e w' ⟨rfl, rfl⟩)
  go_loop [5] (fun s => ∃ S : Nat, s = .int .i64 S ∧ Hid (∃ j, S = 2 ^ j) ∧ 1 ≤ S ∧ S ≤ 16384) (fun s => 16384 - (intOf s).toNat)
  case atStart => exact ⟨1, rfl, ⟨0, rfl⟩, by omega, by omega⟩
  case round =>
    obtain ⟨S, rfl, hj, hS1, hS2⟩ := hrel
    by_cases hlt : S < 2 * hs.length
    · go_wp2
      go_round
      case rel => exact ⟨S * 2, by go_num, by obtain ⟨j, hj⟩ := hj.out; exact ⟨j + 1, by rw [hj, Nat.pow_succ]⟩, by omega, by omega⟩
      case measure => simp [intOf]; omega
    · obtain ⟨N, eN, hm, hSN, hN2⟩ := size_of S e hj.out hS2 he0 he
      obtain ⟨m, hm⟩ := hm
      have HM : Hid (N = 2 ^ m) := hm
      clear hm hj
      go_wp2_with (at_make; refine wpList_make_full _ rfl _ _ 31 rfl w'.heap.size 32 i0 (.int .u32 0) 1 Try.underlying31 hi hz0 hz1 _ _ _ _ N rfl rfl eN eN (by rw [hz2]; omega) (by unfold maxLen; omega) (Nat.le_refl _) ?_; intro w1 hown1 hgrow1; rw [eN])
      have ht1 := tab_made hown1
      have hbel1 : Below w'.heap.size w' w1 := (Below.refl _ _).grown hgrow1 (Nat.le_refl _) (by simp)
      clear hown1 hgrow1 hi hz0 hz1 hz2 eN
      go_loopw [6, 7] (fun v i wr => ∃ k : Nat, k ≤ hs.length ∧ i = .int .i64 k ∧ v = .slice (some ⟨w'.heap.size, 0, none⟩) N N ∧ Below w'.heap.size w' wr ∧
          ∃ zs : List Int, Hid (zs.length = N) ∧ Tab wr w'.heap.size zs ∧ Hid (zeros zs + k = N) ∧ Hid (∀ c, c < k → Met zs (hs.getD c 0).toNat ((c : Int) + 1))) (fun _ i _ => hs.length - (intOf i).toNat)
      case atStart => exact ⟨0, Nat.zero_le _, rfl, rfl, hbel1, List.replicate N 0, by unfold Hid; simp, ht1, by unfold Hid; simp [zeros], fun c hc => absurd hc (by omega)⟩
      case round =>
        obtain ⟨k, hk, rfl, rfl, hbel, zs, hzl, ht, hzz, hmet⟩ := hrel
        by_cases hlt2 : k < hs.length
        · obtain rfl := hao (by omega)
          have hcell : wr.cell? ⟨b, off + k, none⟩ = some (.int .u64 (hs.getD k 0)) := (hbel.cell (by exact hb (by omega))).trans (hc k hlt2)
          obtain ⟨r1, r2⟩ := hr k hlt2
          obtain ⟨h, HH⟩ : ∃ h, Hid (h = hs.getD k 0) := ⟨_, rfl⟩
          rw [← HH.out] at hcell r1 r2
          go_wp2_with fail
          refine (zzPlaceN N _ m zs _ h _ hzl.out HM.out (by omega) (by omega) (by omega) r1 r2 ht (by have := hzz.out; omega)).mono ?_
          rintro e w2 ⟨rfl, d, hfe, ht2, hg2⟩
          have hp : 0 < N := by omega
          have hj : (h.toNat + d) % N < zs.length := by rw [hzl.out]; exact Nat.mod_lt _ hp
          have h0 : zs.getD ((h.toNat + d) % N) 0 = 0 := by have := hfe.2.1; rwa [hzl.out] at this
          have hk1 : ((k : Int) + 1) ≠ 0 := by omega
          have R1 : Hid ((zs.set ((h.toNat + d) % N) ((k : Int) + 1)).length = N) := by unfold Hid; rw [List.length_set]; exact hzl.out
          have R2 : Hid (zeros (zs.set ((h.toNat + d) % N) ((k : Int) + 1)) + (k + 1) = N) := by
            have := zeros_set zs _ ((k : Int) + 1) hj h0 hk1
            have := hzz.out
            unfold Hid; omega
          have R3 : Hid (∀ c, c < k + 1 → Met (zs.set ((h.toNat + d) % N) ((k : Int) + 1)) (hs.getD c 0).toNat ((c : Int) + 1)) := by
            intro c hc
            by_cases hck : c = k
            · subst hck
              have := Met.new (v := (c : Int) + 1) hfe
              rw [hzl.out] at this
              rw [← HH.out]
              exact this
            · exact (hmet.out c (by omega)).stays (by omega) hj h0 hk1
          have hbel2 : Below w'.heap.size w' w2 := hbel.grown hg2 hbel.size (by simp)
          clear hfe hg2 ht h0 hj hk1 hc hr
          go_wp2_with fail
          go_roundw
          case rel => exact ⟨k + 1, by omega, by go_num, rfl, hbel2, _, R1, ht2, R2, R3⟩
          case measure => simp [intOf]; omega
        · obtain ⟨Z, HZ⟩ : ∃ Z, Hid (Z = zeros zs) := ⟨_, rfl⟩
          have z1 : Z + k ≤ N := by rw [HZ.out]; exact Nat.le_of_eq hzz.out
          have z2 : N ≤ Z + k := by rw [HZ.out]; exact Nat.le_of_eq hzz.out.symm
          have z3 : ((N : Int) - (Z : Int) == (hs.length : Int)) = true := beq_iff_eq.2 (by omega)
          go_wp2_with fail
          refine (zerosN N _ 0 N zs _ hzl.out (by omega) (ht.cellN hzl.out)).mono ?_
          rintro e w2 ⟨rfl, rfl⟩
          rw [← HZ.out]
          have hp : 0 < N := by omega
          go_wp2_with fail
          go_loop [9] (fun i => ∃ c : Nat, c ≤ hs.length ∧ i = .int .i64 c) (fun i => hs.length - (intOf i).toNat)
          case atStart => exact ⟨0, Nat.zero_le _, rfl⟩
          case round =>
            obtain ⟨c, hc1, rfl⟩ := hrel
            by_cases hlt3 : c < hs.length
            · obtain rfl := hao (by omega)
              obtain ⟨d, md1, md2, md3⟩ := hmet.out c (by omega)
              rw [hzl.out] at md1 md2 md3
              have hcell : w2.cell? ⟨b, off + c, none⟩ = some (.int .u64 (hs.getD c 0)) := (hbel.cell (by exact hb (by omega))).trans (hc c hlt3)
              obtain ⟨r1, r2⟩ := hr c hlt3
              have e1 := and_mask (hs.getD c 0) m N HM.out (by omega) r1 r2
              obtain ⟨h, HH⟩ : ∃ h, Hid (h = hs.getD c 0) := ⟨_, rfl⟩
              rw [← HH.out] at hcell r1 r2 md2 md3 e1
              have MD2 : Hid (zs.getD ((h.toNat + d) % N) 0 = (c : Int) + 1) := md2
              have MD3 : Hid (∀ e, e < d → zs.getD ((h.toNat + e) % N) 0 ≠ 0) := md3
              have hlt0 : h.toNat % N < N := Nat.mod_lt _ hp
              obtain ⟨p0, HP⟩ : ∃ p, Hid (p = h.toNat % N) := ⟨_, rfl⟩
              rw [← HP.out] at e1 hlt0
              clear md2 md3
              go_wp2_with fail
              go_loop [10, 11, 12] (fun p f s => ∃ q st : Nat, p = .int .u64 q ∧ f = .bool false ∧ s = .int .i64 st ∧ q < N ∧ st ≤ d ∧ Hid (q = (h.toNat + st) % N)) (fun _ _ s => d + 1 - (intOf s).toNat)
              case atStart => exact ⟨p0, 0, rfl, rfl, rfl, hlt0, Nat.zero_le _, HP.out⟩
              case round =>
                obtain ⟨q, st, rfl, rfl, rfl, hq, hst, HQ⟩ := hrel
                have hcell2 := ht.cell q (by rw [hzl.out]; exact hq)
                by_cases hv : zs.getD q 0 = (c : Int) + 1
                · rw [hv] at hcell2
                  clear hv
                  go_wp2_with fail
                  go_round
                  case rel => exact ⟨c + 1, by omega, by go_num⟩
                  case measure => simp [intOf]; omega
                · have hstd : st < d := by
                    refine Nat.lt_of_le_of_ne hst fun e => ?_
                    have := MD2.out
                    rw [← e, ← HQ.out] at this
                    exact hv this
                  have hne : ¬ zs.getD q 0 = 0 := by
                    have := MD3.out st hstd
                    rwa [← HQ.out] at this
                  have e2 := mask_next m N q HM.out (by omega) hq
                  have hlt4 : (q + 1) % N < N := Nat.mod_lt _ hp
                  obtain ⟨q2, HQ2⟩ : ∃ x, Hid (x = (q + 1) % N) := ⟨_, rfl⟩
                  rw [← HQ2.out] at e2 hlt4
                  generalize zs.getD q 0 = v at hcell2 hv hne
                  go_wp2_with fail
                  go_round
                  case rel => exact ⟨q2, st + 1, rfl, rfl, by go_num, hlt4, hstd, by unfold Hid; rw [HQ2.out, HQ.out, Nat.mod_add_mod, Nat.add_assoc]⟩
                  case measure => simp [intOf]; omega
            · go_wp2_with fail
              go_ret
              exact ⟨rfl, hbel⟩

end Go.Proofs.Qxb6001005a.Probe
