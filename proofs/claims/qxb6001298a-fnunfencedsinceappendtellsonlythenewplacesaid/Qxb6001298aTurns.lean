/-
  THE WALK of FnRingOrderTurnsHoldEveryLinkBothWays, over the contracts of zzLabels, ZZringOrder, zzPerm.
-/
import Derived.Test.Qxb6001298aRing
namespace Go.Proofs.Qxb6001298a.Turns
open Go.RowKit
open Plain
set_option linter.unusedVariables false

/-- zzPerm reads a ring's order back. -/
theorem perm_ring (g cap n p : Nat) (ss : List ByteArray) (w : World) (hn : 2 ≤ n) (hn' : n ≤ 65536) (hp : p < pts n) (hg : g < w.heap.size) (hL : Labels.Labelled ss n)
    (hc : ∀ j, j < n → w.cell? ⟨g, 0 + j, none⟩ = some (.string (ss.getD ((ring n p).getD j 0) ByteArray.empty))) :
    Calls Try.prog 12 #[.slice (some ⟨g, 0, none⟩) n cap, .int .i64 n] w fun e w' => e = .returned (.tuple #[.slice (some ⟨w.heap.size, 0, none⟩) n n, .bool true]) ∧ Blk w' w.heap.size 3 ((ring n p).map (fun m : Nat => Value.int .i64 (m : Int))) ∧ Below w.heap.size w w' := by
  have hl := ring_length hn hp
  have hget : ∀ j, j < n → ((ring n p).map (fun i => ss.getD i ByteArray.empty)).getD j ByteArray.empty = ss.getD ((ring n p).getD j 0) ByteArray.empty := fun j hj => by
    have hjl : j < (ring n p).length := by omega
    simp [hjl]
  have hlt : ∀ j, j < n → (ring n p).getD j 0 < n := fun j hj => by
    have hjl : j < (ring n p).length := by omega
    exact (mem_ring hn hp).1 (by rw [show (ring n p).getD j 0 = (ring n p)[j] by simp [hjl]]; exact List.getElem_mem _)
  refine Labels.perm g 0 cap n ((ring n p).map (fun i => ss.getD i ByteArray.empty)) (ring n p) w hn' hg hl (ring_nodup hp) (fun m hm => (mem_ring hn hp).1 hm) ?_ ?_
  · intro j hj
    rw [hget j hj]
    exact hL.2 _ (hlt j hj)
  · intro j hj
    rw [hget j hj]
    exact hc j hj

theorem blk_cells {w : World} {g n : Nat} {ss : List ByteArray} (h : Blk w g 9 (ss.map Value.string)) (hl : ss.length = n) : ∀ i, i < n → w.cell? ⟨g, 0 + i, none⟩ = some (.string (ss.getD i ByteArray.empty)) := fun i hi => by
  rw [Nat.zero_add, h.cell]
  have : i < ss.length := by omega
  simp [this]

theorem blk_int {w : World} {g : Nat} {r : List Nat} (h : Blk w g 3 (r.map (fun m : Nat => Value.int .i64 (m : Int)))) (j : Nat) (hj : j < r.length) : w.cell? ⟨g, j, none⟩ = some (.int .i64 ((r.getD j 0 : Nat) : Int)) := by
  rw [h.cell]
  simp [hj]

/-- The links that are marked: those of the turns before T. -/
def Marked (n start T : Nat) (bs : List Bool) : Prop := bs.length = n * n ∧ ∀ t, t < T → ∀ j, j < n →
  bs.getD ((ring n ((start + t) % pts n)).getD j 0 * n + (ring n ((start + t) % pts n)).getD ((j + 1) % n) 0) false = true
/-- .. and those of the first J places of turn T. -/
def Marking (n start T J : Nat) (bs : List Bool) : Prop := Marked n start T bs ∧ ∀ j, j < J →
  bs.getD ((ring n ((start + T) % pts n)).getD j 0 * n + (ring n ((start + T) % pts n)).getD ((j + 1) % n) 0) false = true

theorem getD_set_true (bs : List Bool) (c i : Nat) (h : bs.getD i false = true) : (bs.set c true).getD i false = true := by
  rw [List.getD_eq_getElem?_getD] at h ⊢
  rw [List.getElem?_set]
  split
  · split
    · rfl
    · rename_i h1 h2
      rw [← h1, List.getElem?_eq_none (by omega)] at h
      simp at h
  · exact h

theorem getD_set_self (bs : List Bool) (c : Nat) (h : c < bs.length) : (bs.set c true).getD c false = true := by
  rw [List.getD_eq_getElem?_getD, List.getElem?_set, if_pos rfl, if_pos h]
  rfl

theorem Marking.step {n start T J : Nat} {bs : List Bool} (h : Marking n start T J bs)
    (hlt : (ring n ((start + T) % pts n)).getD J 0 * n + (ring n ((start + T) % pts n)).getD ((J + 1) % n) 0 < n * n) :
    Marking n start T (J + 1) (bs.set ((ring n ((start + T) % pts n)).getD J 0 * n + (ring n ((start + T) % pts n)).getD ((J + 1) % n) 0) true) := by
  obtain ⟨⟨h1, h2⟩, h3⟩ := h
  refine ⟨⟨by simp [h1], fun t ht j hj => getD_set_true _ _ _ (h2 t ht j hj)⟩, fun j hj => ?_⟩
  by_cases e : j = J
  · subst e
    exact getD_set_self _ _ (by omega)
  · exact getD_set_true _ _ _ (h3 j (by omega))

theorem Marking.whole {n start T : Nat} {bs : List Bool} (h : Marking n start T n bs) : Marked n start (T + 1) bs := by
  obtain ⟨⟨h1, h2⟩, h3⟩ := h
  refine ⟨h1, fun t ht j hj => ?_⟩
  by_cases e : t = T
  · subst e; exact h3 j hj
  · exact h2 t (by omega) j hj

theorem Marked.all {n start : Nat} {bs : List Bool} (hn : 2 ≤ n) (h : Marked n start (n + 6) bs) (a b : Nat) (ha : a < n) (hb : b < n) (hab : a ≠ b) : bs.getD (a * n + b) false = true := by
  obtain ⟨p, hp, j, hj, e1, e2⟩ := links hn ha hb hab
  obtain ⟨t, ht, e⟩ := turn_of n start p hn hp
  have := h.2 t ht j hj
  rw [e, e1, e2] at this
  exact this

theorem place_lt (n a b : Nat) (ha : a < n) (hb : b < n) : a * n + b < n * n := by
  have h1 : (a + 1) * n ≤ n * n := Nat.mul_le_mul_right n ha
  rw [Nat.add_mul, Nat.one_mul] at h1
  omega

theorem ring_at_lt {n p j : Nat} (hn : 2 ≤ n) (hp : p < pts n) (hj : j < n) : (ring n p).getD j 0 < n := by
  have hl := ring_length hn hp
  have hjl : j < (ring n p).length := by omega
  exact (mem_ring hn hp).1 (by rw [show (ring n p).getD j 0 = (ring n p)[j] by simp [hjl]]; exact List.getElem_mem _)

set_option maxHeartbeats 3200000 in
theorem main (n start : Nat) (w : World) (hn : 2 ≤ n) (hn' : n ≤ 256) (hs : start ≤ 18446744073709550591) :
    Calls Try.prog 4 #[.int .i64 n, .int .u64 start] w fun e w' => e = .returned (.bool true) ∧ Below w.heap.size w w' := by
  obtain ⟨i4, hi4, hz40, hz41, hz42⟩ := info_parts Labels.info4
  obtain ⟨M, HM⟩ : ∃ x, Hid (x = n * n) := ⟨_, rfl⟩
  have eM : (n : Int) * (n : Int) = (M : Int) := by rw [HM.out]; rfl
  have hM : M ≤ 65536 := by rw [HM.out]; exact Nat.mul_le_mul hn' hn'
  go_enter Try.func4, Try.ntmps4
  go_wp2_with fail
  refine (Labels.labels n _ (by omega)).mono ?_
  rintro e w1 ⟨rfl, ss, hL, hbL, hb1⟩
  have HL : Hid (Labels.Labelled ss n) := hL
  have hgl := hbL.lt
  clear hL
  go_wp2_with (at_make; refine wpList_make_full _ rfl _ _ 32 rfl w1.heap.size 4 i4 (.bool false) 1 Try.underlying32 hi4 hz40 hz41 _ _ _ _ M rfl rfl (by first | rfl | exact eM) (by first | rfl | exact eM) (by rw [hz42]; omega) (by unfold maxLen; omega) (Nat.le_refl _) ?_; intro w2 hown2 hgrow2)
  have hbK := blk_made (z := .bool false) rfl hown2
  have hb2 : Below w1.heap.size w1 w2 := (Below.refl _ _).grown hgrow2 (Nat.le_refl _) (by simp)
  have hbL2 := hbL.below hb2 hbL.lt
  have hb2 := hb1.trans (hb2.mono hb1.size)
  clear hown2 hgrow2 hi4 hz40 hz41 hz42 hbL hb1
  go_loopw [7] (fun i wr => ∃ (T : Nat) (bs : List Bool), T ≤ n + 6 ∧ i = .int .i64 T ∧ Hid (Marked n start T bs) ∧ Blk wr w.heap.size 9 (ss.map Value.string) ∧ Blk wr w1.heap.size 4 (bs.map Value.bool) ∧ Below w.heap.size w wr) (fun i _ => n + 6 - (intOf i).toNat)
  case atStart => exact ⟨0, List.replicate M false, Nat.zero_le _, rfl, ⟨by simp [HM.out], by omega⟩, hbL2, by simpa using hbK, hb2⟩
  case round =>
    obtain ⟨T, bs, hT, rfl, HK, hL, hK, hbel⟩ := hrel
    by_cases hlt : T < n + 6
    · have hp : (start + T) % pts n < pts n := Nat.mod_lt _ (by have := pts_pos n hn; omega)
      obtain ⟨U, HU⟩ : ∃ x, Hid (x = start + T) := ⟨_, rfl⟩
      have eU : (start : Int) + (T : Int) = (U : Int) := by rw [HU.out]; omega
      have hU : U < 18446744073709551616 := by rw [HU.out]; omega
      obtain ⟨p, HP⟩ : ∃ x, Hid (x = (start + T) % pts n) := ⟨_, rfl⟩
      rw [← HP.out] at hp
      go_wp2_with fail
      refine (Ring.zzRing _ 0 n n U ss _ hn (by omega) hU hL.lt (blk_cells hL HL.out.1)).mono ?_
      rintro e w3 ⟨g, cp, rfl, hg1, hg2, hg3, hb3⟩
      rw [show U % pts n = p by rw [HU.out]; exact HP.out.symm] at hg3
      have hL3 := hL.below hb3 hL.lt
      have hK3 := hK.below hb3 hK.lt
      have hb3 := hbel.trans (hb3.mono hbel.size)
      have HG : Hid (∀ j, j < n → w3.cell? ⟨g, 0 + j, none⟩ = some (.string (ss.getD ((ring n p).getD j 0) ByteArray.empty))) := hg3
      clear hg3 hL hK hbel
      go_wp2_with fail
      refine (perm_ring g cp n p ss _ hn (by omega) hp hg2 HL.out HG.out).mono ?_
      rintro e w4 ⟨rfl, hX4, hb4⟩
      have hL4 := hL3.below hb4 hL3.lt
      have hK4 := hK3.below hb4 hK3.lt
      have gx : w1.heap.size < w3.heap.size := hK3.lt
      have hb4 := hb3.trans (hb4.mono hb3.size)
      clear HG hL3 hK3 hb3
      go_wp2_with fail
      go_loopw [10] (fun i wq => ∃ (J : Nat) (cs : List Bool), J ≤ n ∧ i = .int .i64 J ∧ Hid (Marking n start T J cs) ∧ Blk wq w.heap.size 9 (ss.map Value.string) ∧ Blk wq w1.heap.size 4 (cs.map Value.bool) ∧ Blk wq w3.heap.size 3 ((ring n p).map (fun m : Nat => Value.int .i64 (m : Int))) ∧ Below w.heap.size w wq) (fun i _ => n - (intOf i).toNat)
      case atStart => exact ⟨0, bs, Nat.zero_le _, rfl, ⟨HK.out, by omega⟩, hL4, hK4, hX4, hb4⟩
      case round =>
        obtain ⟨J, cs, hJ, rfl, HJ, hL, hK, hX, hbel⟩ := hrel
        clear hL4 hK4 hX4 hb4
        by_cases hlt2 : J < n
        · obtain ⟨J2, HJ2⟩ : ∃ x, Hid (x = (J + 1) % n) := ⟨_, rfl⟩
          have eJ : ((J : Int) + 1) % (n : Int) = (J2 : Int) := by rw [HJ2.out]; rfl
          have hJ2 : J2 < n := by rw [HJ2.out]; exact Nat.mod_lt _ (by omega)
          have hrl := ring_length hn hp
          have x1 := blk_int hX J (by omega)
          have x2 := blk_int hX J2 (by omega)
          have a1 := ring_at_lt hn hp hlt2
          have a2 := ring_at_lt hn hp hJ2
          have hpl := place_lt n _ _ a1 a2
          have HS := HJ.out.step (by rw [← HP.out, ← HJ2.out]; exact hpl)
          rw [← HP.out, ← HJ2.out] at HS
          have hcl := HJ.out.1.1
          obtain ⟨A, HA⟩ : ∃ x, Hid (x = (ring n p).getD J 0) := ⟨_, rfl⟩
          obtain ⟨Bq, HB⟩ : ∃ x, Hid (x = (ring n p).getD J2 0) := ⟨_, rfl⟩
          rw [← HA.out] at x1 a1 hpl HS
          rw [← HB.out] at x2 a2 hpl HS
          obtain ⟨C, HC⟩ : ∃ x, Hid (x = A * n) := ⟨_, rfl⟩
          have eC : (A : Int) * (n : Int) = (C : Int) := by rw [HC.out]; rfl
          rw [← HC.out] at hpl HS
          rw [← HM.out] at hpl hcl
          have HS2 : Hid (Marking n start T (J + 1) (cs.set (C + Bq) true)) := HS
          obtain ⟨old, hold⟩ : ∃ old, wr.cell? ⟨w1.heap.size, C + Bq, none⟩ = some old := by
            rw [hK.cell]
            exact ⟨_, List.getElem?_eq_getElem (by simp; omega)⟩
          have hfr := hK.frozen (C + Bq)
          have sK := hK.set (C + Bq) (.bool true)
          rw [← List.map_set] at sK
          have SK : Hid (Blk (wr.setCell ⟨w1.heap.size, C + Bq, none⟩ (.bool true)) w1.heap.size 4 ((cs.set (C + Bq) true).map Value.bool)) := sK
          have SL : Hid (Blk (wr.setCell ⟨w1.heap.size, C + Bq, none⟩ (.bool true)) w.heap.size 9 (ss.map Value.string)) := hL.other _ (by simp; omega)
          have SX : Hid (Blk (wr.setCell ⟨w1.heap.size, C + Bq, none⟩ (.bool true)) w3.heap.size 3 ((ring n p).map (fun m : Nat => Value.int .i64 (m : Int)))) := hX.other _ (by simp; omega)
          clear hL hK hX HS sK
          go_wp2_with fail
          go_roundw
          case rel => exact ⟨J + 1, _, by omega, by go_num, HS2.out, SL.out, SK.out, SX.out, hbel.setCell (by simp; omega) _⟩
          case measure => simp [intOf]; omega
        · obtain rfl : n = J := by omega
          go_wp2_with fail
          go_roundw
          case rel => exact ⟨T + 1, cs, by omega, by go_num, HJ.out.whole, hL, hK, hbel⟩
          case measure => simp [intOf]; omega
    · obtain rfl : T = n + 6 := by omega
      have hbl := HK.out.1
      rw [← HM.out] at hbl
      go_wp2_with fail
      go_loop [13] (fun i => ∃ A : Nat, A ≤ n ∧ i = .int .i64 A) (fun i => n - (intOf i).toNat)
      case atStart => exact ⟨0, Nat.zero_le _, rfl⟩
      case round =>
        obtain ⟨A, hA, rfl⟩ := hrel
        by_cases hltA : A < n
        · obtain ⟨C, HC⟩ : ∃ x, Hid (x = A * n) := ⟨_, rfl⟩
          have eC : (A : Int) * (n : Int) = (C : Int) := by rw [HC.out]; rfl
          have hCM : ∀ b, b < n → C + b < M := fun b hb => by
            have := place_lt n A b hltA hb
            rw [HC.out, HM.out]; exact this
          have HCM : Hid (∀ b, b < n → C + b < M) := hCM
          clear hCM
          go_wp2_with fail
          go_loop [14] (fun i => ∃ b : Nat, b ≤ n ∧ i = .int .i64 b) (fun i => n - (intOf i).toNat)
          case atStart => exact ⟨0, Nat.zero_le _, rfl⟩
          case round =>
            obtain ⟨b, hb, rfl⟩ := hrel
            by_cases hltb : b < n
            · have hin := HCM.out b hltb
              by_cases hab : A = b
              · subst hab
                go_wp2_with fail
                go_round
                case rel => exact ⟨A + 1, by omega, by go_num⟩
                case measure => simp [intOf]; omega
              · have hne : ((A : Int) != (b : Int)) = true := by rw [bne_iff_ne]; omega
                have hbit := HK.out.all hn A b hltA hltb hab
                rw [← HC.out] at hbit
                have hcell : wr.cell? ⟨w1.heap.size, C + b, none⟩ = some (.bool true) := by
                  rw [hK.cell, List.getElem?_map]
                  have h1 : C + b < bs.length := by omega
                  have h2 : bs[C + b]? = some true := by
                    rw [List.getD_eq_getElem?_getD, List.getElem?_eq_getElem h1] at hbit
                    rw [List.getElem?_eq_getElem h1]
                    simpa using hbit
                  rw [h2]; rfl
                clear hbit
                go_wp2_with fail
                go_round
                case rel => exact ⟨b + 1, by omega, by go_num⟩
                case measure => simp [intOf]; omega
            · go_wp2_with fail
              go_round
              case rel => exact ⟨A + 1, by omega, by go_num⟩
              case measure => simp [intOf]; omega
        · go_wp2_with fail
          go_ret
          exact ⟨rfl, hbel⟩

end Go.Proofs.Qxb6001298a.Turns
