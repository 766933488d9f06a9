/-
  THE WALK of FnRingOrderNextTurnMovesFewBehind, over the contracts of zzLabels, ZZringOrder, zzPerm.
-/
import Derived.Test.Qxb6001298aTurns
namespace Go.Proofs.Qxb6001298a.Next
open Go.RowKit
open Plain Turns
set_option linter.unusedVariables false

/-- P holds the places of the first J of r. -/
def Placed (n : Nat) (r : List Nat) (J : Nat) (P : List Int) : Prop := P.length = n ∧ ∀ i, i < J → P.getD (r.getD i 0) 0 = (i : Int)

theorem Placed.step {n : Nat} {r : List Nat} {J : Nat} {P : List Int} (h : Placed n r J P) (hr : r.Nodup) (hJ : J < r.length) (hlt : r.getD J 0 < n) : Placed n r (J + 1) (P.set (r.getD J 0) (J : Int)) := by
  obtain ⟨h1, h2⟩ := h
  refine ⟨by simp [h1], fun i hi => ?_⟩
  rw [List.getD_eq_getElem?_getD, List.getElem?_set]
  by_cases e : i = J
  · subst e
    rw [if_pos rfl, if_pos (by omega)]
    rfl
  · have hne : r.getD J 0 ≠ r.getD i 0 := by
      have hi' : i < r.length := by omega
      intro he
      have h3 := List.pairwise_iff_getElem.1 hr i J hi' hJ (by omega)
      apply h3
      simpa [hi', hJ] using he.symm
    rw [if_neg hne, ← List.getD_eq_getElem?_getD]
    exact h2 i (by omega)

def bad (PA PB : List Int) (x y : Nat) : Bool := decide (y ≠ x) && (decide (PA.getD y 0 < PA.getD x 0) && decide (PB.getD x 0 < PB.getD y 0))

def cnt (PA PB : List Int) (x k : Nat) : Nat := (List.range k).countP (bad PA PB x)

theorem cnt_succ (PA PB : List Int) (x k : Nat) : cnt PA PB x (k + 1) = cnt PA PB x k + if bad PA PB x k = true then 1 else 0 := by
  unfold cnt
  rw [List.range_succ, List.countP_append, List.countP_singleton]

theorem cnt_le (PA PB : List Int) (x k : Nat) : cnt PA PB x k ≤ k := by
  unfold cnt
  have := List.countP_le_length (p := bad PA PB x) (l := List.range k)
  simpa using this

theorem nxt_mod (N t : Nat) (hN : 2 ≤ N) : (t + 1) % N = nxt N (t % N) := by
  have hm := Nat.mod_lt t (show 0 < N by omega)
  rw [← Nat.mod_add_mod]
  generalize t % N = s at *
  unfold nxt
  split
  · exact Nat.mod_eq_of_lt (by omega)
  · rw [show s + 1 = N by omega, Nat.mod_self]

theorem few {n t x : Nat} {PA PB : List Int} (hn : 2 ≤ n) (hA : Placed n (ring n (t % pts n)) n PA) (hB : Placed n (ring n ((t + 1) % pts n)) n PB) (hx : x < n) : cnt PA PB x n ≤ lim n := by
  have h2 := pts_pos n hn
  have hp : t % pts n < pts n := Nat.mod_lt _ (by omega)
  have hp' : (t + 1) % pts n < pts n := Nat.mod_lt _ (by omega)
  refine count_behind hn hp hx (bad PA PB x) fun y hy hbad => ?_
  unfold bad at hbad
  simp only [Bool.and_eq_true, decide_eq_true_eq] at hbad
  obtain ⟨_, hb1, hb2⟩ := hbad
  refine ⟨pos_key hn hp hA.2 hy hx hb1, ?_⟩
  rw [← nxt_mod _ _ h2]
  exact pos_key hn hp' hB.2 hx hy hb2

theorem blk_at {w : World} {g : Nat} {P : List Int} (h : Blk w g 3 (P.map (Value.int .i64))) (j : Nat) (hj : j < P.length) : w.cell? ⟨g, j, none⟩ = some (.int .i64 (P.getD j 0)) := by
  rw [h.cell]
  simp [hj]

set_option maxHeartbeats 3200000 in
theorem main (n turn : Nat) (w : World) (hn : 2 ≤ n) (hn' : n ≤ 1024) (ht : turn < 18446744073709551615) :
    Calls Try.prog 5 #[.int .i64 n, .int .u64 turn] w fun e w' => e = .returned (.bool true) ∧ Below w.heap.size w w' := by
  obtain ⟨i3, hi3, hz30, hz31, hz32⟩ := info_parts Labels.info3
  have hte : ((turn : Int) == 18446744073709551615) = false := beq_eq_false_iff_ne.2 (by omega)
  have h2 := pts_pos n hn
  have hp : turn % pts n < pts n := Nat.mod_lt _ (by omega)
  have hp' : (turn + 1) % pts n < pts n := Nat.mod_lt _ (by omega)
  obtain ⟨U, HU⟩ : ∃ x, Hid (x = turn + 1) := ⟨_, rfl⟩
  have eU : (turn : Int) + 1 = (U : Int) := by rw [HU.out]; omega
  have hU : U < 18446744073709551616 := by rw [HU.out]; omega
  rw [← HU.out] at hp'
  go_enter Try.func5, Try.ntmps5
  go_wp2_with fail
  refine (Labels.labels n _ (by omega)).mono ?_
  rintro e w1 ⟨rfl, ss, hL, hbL, hb1⟩
  have HL : Hid (Labels.Labelled ss n) := hL
  clear hL
  go_wp2_with fail
  refine (Ring.zzRing _ 0 n n turn ss _ hn (by omega) (by omega) hbL.lt (blk_cells hbL HL.out.1)).mono ?_
  rintro e w2 ⟨g, cp, rfl, hg1, hg2, hg3, hb2⟩
  have hL2 := hbL.below hb2 hbL.lt
  have hb2 := hb1.trans (hb2.mono hb1.size)
  have HG : Hid (∀ j, j < n → w2.cell? ⟨g, 0 + j, none⟩ = some (.string (ss.getD ((ring n (turn % pts n)).getD j 0) ByteArray.empty))) := hg3
  clear hg3 hbL hb1
  go_wp2_with fail
  refine (perm_ring g cp n _ ss _ hn (by omega) hp hg2 HL.out HG.out).mono ?_
  rintro e w3 ⟨rfl, hX3, hb3⟩
  have hL3 := hL2.below hb3 hL2.lt
  have hb3 := hb2.trans (hb3.mono hb2.size)
  clear HG hL2 hb2
  go_wp2_with fail
  refine (Ring.zzRing _ 0 n n U ss _ hn (by omega) hU hL3.lt (blk_cells hL3 HL.out.1)).mono ?_
  rintro e w4 ⟨g', cp', rfl, hg1', hg2', hg3', hb4⟩
  have hX4 := hX3.below hb4 hX3.lt
  have lX3 := hX3.lt
  have hb4 := hb3.trans (hb4.mono hb3.size)
  have HG : Hid (∀ j, j < n → w4.cell? ⟨g', 0 + j, none⟩ = some (.string (ss.getD ((ring n (U % pts n)).getD j 0) ByteArray.empty))) := hg3'
  clear hg3' hL3 hX3 hb3
  go_wp2_with fail
  refine (perm_ring g' cp' n _ ss _ hn (by omega) hp' hg2' HL.out HG.out).mono ?_
  rintro e w5 ⟨rfl, hY5, hb5⟩
  have hX5 := hX4.below hb5 hX4.lt
  have lX4 := hX4.lt
  have lY5 := hY5.lt
  have hb5 := hb4.trans (hb5.mono hb4.size)
  clear HG hX4 hb4
  go_wp2_with (first | (at_make; refine wpList_make_full _ rfl (.tmp 50) (.tmp 50) 27 rfl w5.heap.size 3 i3 (.int .i64 0) 1 Try.underlying27 hi3 hz30 hz31 _ _ _ _ n rfl rfl rfl rfl (by rw [hz32]; omega) (by unfold maxLen; omega) (Nat.le_refl _) ?_; intro w6 hown6 hgrow6) | (at_make; refine wpList_make_full _ rfl (.tmp 52) (.tmp 52) 27 rfl w6.heap.size 3 i3 (.int .i64 0) 1 Try.underlying27 hi3 hz30 hz31 _ _ _ _ n rfl rfl rfl rfl (by rw [hz32]; omega) (by unfold maxLen; omega) (Nat.le_refl _) ?_; intro w7 hown7 hgrow7))
  have hA6 := blk_made (z := .int .i64 0) rfl hown6
  have hB7 := blk_made (z := .int .i64 0) rfl hown7
  have hb6 : Below w5.heap.size w5 w6 := (Below.refl _ _).grown hgrow6 (Nat.le_refl _) (by simp)
  have hb7 : Below w6.heap.size w6 w7 := (Below.refl _ _).grown hgrow7 (Nat.le_refl _) (by simp)
  have lA6 := hA6.lt
  have sz5 : w.heap.size ≤ w5.heap.size := hb5.size
  have hA7 := hA6.below hb7 hA6.lt
  have hX7 := (hX5.below hb6 hX5.lt).below hb7 (by omega)
  have hY7 := (hY5.below hb6 hY5.lt).below hb7 (by omega)
  have hb7 := (hb5.trans (hb6.mono hb5.size)).trans (hb7.mono (by have := hb5.size; omega))
  clear hown6 hown7 hgrow6 hgrow7 hi3 hz30 hz31 hz32 hA6 hX5 hY5 hb6 hb5
  have hrl := ring_length hn hp
  have hrl' := ring_length hn hp'
  go_loopw [12] (fun i wr => ∃ (J : Nat) (PA PB : List Int), J ≤ n ∧ i = .int .i64 J ∧ Hid (Placed n (ring n (turn % pts n)) J PA) ∧ Hid (Placed n (ring n (U % pts n)) J PB) ∧
      Blk wr w2.heap.size 3 ((ring n (turn % pts n)).map (fun m : Nat => Value.int .i64 (m : Int))) ∧ Blk wr w4.heap.size 3 ((ring n (U % pts n)).map (fun m : Nat => Value.int .i64 (m : Int))) ∧
      Blk wr w5.heap.size 3 (PA.map (Value.int .i64)) ∧ Blk wr w6.heap.size 3 (PB.map (Value.int .i64)) ∧ Below w.heap.size w wr) (fun i _ => n - (intOf i).toNat)
  case atStart => exact ⟨0, List.replicate n 0, List.replicate n 0, Nat.zero_le _, rfl, ⟨by simp, by omega⟩, ⟨by simp, by omega⟩, hX7, hY7, by simpa using hA7, by simpa using hB7, hb7⟩
  case round =>
    obtain ⟨J, PA, PB, hJ, rfl, HA, HB, hX, hY, hA, hB, hbel⟩ := hrel
    clear hX7 hY7 hA7 hB7 hb7
    by_cases hlt : J < n
    · have x1 := blk_int hX J (by omega)
      have y1 := blk_int hY J (by omega)
      have a1 := ring_at_lt hn hp hlt
      have b1 := ring_at_lt hn hp' hlt
      have SA := HA.out.step (ring_nodup hp) (by omega) a1
      have SB := HB.out.step (ring_nodup hp') (by omega) b1
      have lA := HA.out.1
      have lB := HB.out.1
      obtain ⟨A, HAe⟩ : ∃ x, Hid (x = (ring n (turn % pts n)).getD J 0) := ⟨_, rfl⟩
      obtain ⟨Bq, HBe⟩ : ∃ x, Hid (x = (ring n (U % pts n)).getD J 0) := ⟨_, rfl⟩
      rw [← HAe.out] at x1 a1 SA
      rw [← HBe.out] at y1 b1 SB
      have HSA : Hid (Placed n (ring n (turn % pts n)) (J + 1) (PA.set A (J : Int))) := SA
      have HSB : Hid (Placed n (ring n (U % pts n)) (J + 1) (PB.set Bq (J : Int))) := SB
      have oA := blk_at hA A (by omega)
      have oB := blk_at hB Bq (by omega)
      have fA := hA.frozen A
      have fB := hB.frozen Bq
      generalize PA.getD A 0 = vA at oA
      generalize PB.getD Bq 0 = vB at oB
      have tA := hA.set A (.int .i64 (J : Int))
      rw [← List.map_set] at tA
      have tB := (hB.other (a := ⟨w5.heap.size, A, none⟩) (.int .i64 (J : Int)) (by simp; omega)).set Bq (.int .i64 (J : Int))
      rw [← List.map_set] at tB
      have TA : Hid (Blk ((wr.setCell ⟨w5.heap.size, A, none⟩ (.int .i64 (J : Int))).setCell ⟨w6.heap.size, Bq, none⟩ (.int .i64 (J : Int))) w5.heap.size 3 ((PA.set A (J : Int)).map (Value.int .i64))) := tA.other _ (by simp; omega)
      have TB : Hid (Blk ((wr.setCell ⟨w5.heap.size, A, none⟩ (.int .i64 (J : Int))).setCell ⟨w6.heap.size, Bq, none⟩ (.int .i64 (J : Int))) w6.heap.size 3 ((PB.set Bq (J : Int)).map (Value.int .i64))) := tB
      have TX : Hid (Blk ((wr.setCell ⟨w5.heap.size, A, none⟩ (.int .i64 (J : Int))).setCell ⟨w6.heap.size, Bq, none⟩ (.int .i64 (J : Int))) w2.heap.size 3 ((ring n (turn % pts n)).map (fun m : Nat => Value.int .i64 (m : Int)))) := (hX.other _ (by simp; omega)).other _ (by simp; omega)
      have TY : Hid (Blk ((wr.setCell ⟨w5.heap.size, A, none⟩ (.int .i64 (J : Int))).setCell ⟨w6.heap.size, Bq, none⟩ (.int .i64 (J : Int))) w4.heap.size 3 ((ring n (U % pts n)).map (fun m : Nat => Value.int .i64 (m : Int)))) := (hY.other _ (by simp; omega)).other _ (by simp; omega)
      have ne1 : w5.heap.size ≠ w6.heap.size := by omega
      have ne2 : w4.heap.size ≠ w5.heap.size := by omega
      have hbs := hbel.size
      clear hX hY hA hB tA tB SA SB
      go_wp2_with fail
      go_roundw
      case rel => exact ⟨J + 1, _, _, by omega, by go_num, HSA.out, HSB.out, TX.out, TY.out, TA.out, TB.out, (hbel.setCell (by simp; omega) _).setCell (by simp; omega) _⟩
      case measure => simp [intOf]; omega
    · obtain rfl : n = J := by omega
      have lA := HA.out.1
      have lB := HB.out.1
      have HF : Hid (∀ x, x < n → cnt PA PB x n ≤ lim n) := fun x hx => few hn HA.out (by rw [← HU.out]; exact HB.out) hx
      clear hX hY HA HB
      by_cases h4 : n = 4
      · have HLM : Hid (∀ c : Nat, c ≤ lim n → c ≤ 1) := fun c hc => by unfold lim at hc; rw [if_pos h4] at hc; exact hc
        have hb4' : ((n : Int) == 4) = true := beq_iff_eq.2 (by omega)
        clear h4
        go_wp2_with fail
        go_loopw [14] (fun i wr => ∃ X : Nat, X ≤ n ∧ i = .int .i64 X ∧ Blk wr w5.heap.size 3 (PA.map (Value.int .i64)) ∧ Blk wr w6.heap.size 3 (PB.map (Value.int .i64)) ∧ Below w.heap.size w wr) (fun i _ => n - (intOf i).toNat)
        case atStart => exact ⟨0, Nat.zero_le _, rfl, hA, hB, hbel⟩
        case round =>
          clear hA hB hbel
          obtain ⟨X, hX, rfl, hA, hB, hbel⟩ := hrel
          by_cases hltX : X < n
          · have HCN : Hid (cnt PA PB X n ≤ 1) := HLM.out _ (HF.out X hltX)
            go_wp2_with fail
            go_loopw [15, 16] (fun c i wr => ∃ Y C : Nat, Y ≤ n ∧ i = .int .i64 Y ∧ c = .int .i64 C ∧ C ≤ Y ∧ Hid (C = cnt PA PB X Y) ∧ Blk wr w5.heap.size 3 (PA.map (Value.int .i64)) ∧ Blk wr w6.heap.size 3 (PB.map (Value.int .i64)) ∧ Below w.heap.size w wr) (fun _ i _ => n - (intOf i).toNat)
            case atStart => exact ⟨0, 0, Nat.zero_le _, rfl, rfl, Nat.le_refl _, rfl, hA, hB, hbel⟩
            case round =>
              clear hA hB hbel
              obtain ⟨Y, C, hY, rfl, rfl, hCY, HC, hA, hB, hbel⟩ := hrel
              by_cases hltY : Y < n
              · have ay := blk_at hA Y (by omega)
                have ax := blk_at hA X (by omega)
                have cy := blk_at hB Y (by omega)
                have cx := blk_at hB X (by omega)
                have hs := cnt_succ PA PB X Y
                rw [← HC.out] at hs
                have l1 : (Y : Int) < (n : Int) := by omega
                have l0 : (0 : Int) ≤ (Y : Int) := by omega
                have m1 : (X : Int) < (n : Int) := by omega
                have m0 : (0 : Int) ≤ (X : Int) := by omega
                by_cases hyx : Y = X
                · have HN : Hid (cnt PA PB X (Y + 1) = C) := by
                    have hbad : bad PA PB X Y = false := by simp [bad, hyx]
                    unfold Hid; rw [hs, hbad]; rfl
                  subst hyx
                  clear hs ay ax cy cx
                  go_wp2_with fail
                  go_quiet (fail)
                  go_wp2_with fail
                  go_roundw
                  case rel => exact ⟨Y + 1, C, by omega, by go_num, by first | rfl | go_num, by omega, HN.out.symm, hA, hB, below_drewN hbel _⟩
                  case measure => simp [intOf]; omega
                · have hne : ((Y : Int) != (X : Int)) = true := by rw [bne_iff_ne]; omega
                  by_cases h1 : PA.getD Y 0 < PA.getD X 0
                  · by_cases h2 : PB.getD X 0 < PB.getD Y 0
                    · have HN : Hid (cnt PA PB X (Y + 1) = C + 1) := by
                        have hbad : bad PA PB X Y = true := by unfold bad; simp only [Bool.and_eq_true, decide_eq_true_eq]; exact ⟨hyx, h1, h2⟩
                        unfold Hid; rw [hs, hbad]; rfl
                      clear hs
                      generalize PA.getD Y 0 = v1 at ay h1
                      generalize PA.getD X 0 = v2 at ax h1
                      generalize PB.getD Y 0 = v3 at cy h2
                      generalize PB.getD X 0 = v4 at cx h2
                      go_wp2_with fail
                      go_quiet (fail)
                      go_wp2_with fail
                      go_roundw
                      case rel => exact ⟨Y + 1, C + 1, by omega, by go_num, by first | rfl | go_num, by omega, HN.out.symm, hA, hB, below_drewN hbel _⟩
                      case measure => simp [intOf]; omega
                    · have HN : Hid (cnt PA PB X (Y + 1) = C) := by
                        have hbad : bad PA PB X Y = false := by
                          rw [Bool.eq_false_iff]
                          unfold bad; simp only [ne_eq, Bool.and_eq_true, decide_eq_true_eq]; exact fun h => h2 h.2.2
                        unfold Hid; rw [hs, hbad]; rfl
                      clear hs
                      have hd2 : decide (PB.getD X 0 < PB.getD Y 0) = false := by simpa using h2
                      clear h2
                      generalize PA.getD Y 0 = v1 at ay h1
                      generalize PA.getD X 0 = v2 at ax h1
                      generalize PB.getD Y 0 = v3 at cy hd2
                      generalize PB.getD X 0 = v4 at cx hd2
                      go_wp2_with fail
                      go_quiet (fail)
                      go_wp2_with fail
                      go_roundw
                      case rel => exact ⟨Y + 1, C, by omega, by go_num, by first | rfl | go_num, by omega, HN.out.symm, hA, hB, below_drewN hbel _⟩
                      case measure => simp [intOf]; omega
                  · have HN : Hid (cnt PA PB X (Y + 1) = C) := by
                      have hbad : bad PA PB X Y = false := by
                        rw [Bool.eq_false_iff]
                        unfold bad; simp only [ne_eq, Bool.and_eq_true, decide_eq_true_eq]; exact fun h => h1 h.2.1
                      unfold Hid; rw [hs, hbad]; rfl
                    clear hs
                    have hd1 : decide (PA.getD Y 0 < PA.getD X 0) = false := by simpa using h1
                    clear h1 cy cx
                    generalize PA.getD Y 0 = v1 at ay hd1
                    generalize PA.getD X 0 = v2 at ax hd1
                    go_wp2_with fail
                    go_quiet (fail)
                    go_wp2_with fail
                    go_roundw
                    case rel => exact ⟨Y + 1, C, by omega, by go_num, by first | rfl | go_num, by omega, HN.out.symm, hA, hB, below_drewN hbel _⟩
                    case measure => simp [intOf]; omega
              · obtain rfl : n = Y := by omega
                have hC1 : C ≤ 1 := by rw [HC.out]; exact HCN.out
                go_wp2_with fail
                go_roundw
                case rel => exact ⟨X + 1, by omega, by go_num, hA, hB, hbel⟩
                case measure => simp [intOf]; omega
          · go_wp2_with fail
            go_ret
            exact ⟨rfl, hbel⟩
      · have HLM : Hid (∀ c : Nat, c ≤ lim n → c ≤ 2) := fun c hc => by unfold lim at hc; rw [if_neg h4] at hc; exact hc
        have hb4' : ((n : Int) == 4) = false := beq_eq_false_iff_ne.2 (by omega)
        clear h4
        go_wp2_with fail
        go_loopw [14] (fun i wr => ∃ X : Nat, X ≤ n ∧ i = .int .i64 X ∧ Blk wr w5.heap.size 3 (PA.map (Value.int .i64)) ∧ Blk wr w6.heap.size 3 (PB.map (Value.int .i64)) ∧ Below w.heap.size w wr) (fun i _ => n - (intOf i).toNat)
        case atStart => exact ⟨0, Nat.zero_le _, rfl, hA, hB, hbel⟩
        case round =>
          clear hA hB hbel
          obtain ⟨X, hX, rfl, hA, hB, hbel⟩ := hrel
          by_cases hltX : X < n
          · have HCN : Hid (cnt PA PB X n ≤ 2) := HLM.out _ (HF.out X hltX)
            go_wp2_with fail
            go_loopw [15, 16] (fun c i wr => ∃ Y C : Nat, Y ≤ n ∧ i = .int .i64 Y ∧ c = .int .i64 C ∧ C ≤ Y ∧ Hid (C = cnt PA PB X Y) ∧ Blk wr w5.heap.size 3 (PA.map (Value.int .i64)) ∧ Blk wr w6.heap.size 3 (PB.map (Value.int .i64)) ∧ Below w.heap.size w wr) (fun _ i _ => n - (intOf i).toNat)
            case atStart => exact ⟨0, 0, Nat.zero_le _, rfl, rfl, Nat.le_refl _, rfl, hA, hB, hbel⟩
            case round =>
              clear hA hB hbel
              obtain ⟨Y, C, hY, rfl, rfl, hCY, HC, hA, hB, hbel⟩ := hrel
              by_cases hltY : Y < n
              · have ay := blk_at hA Y (by omega)
                have ax := blk_at hA X (by omega)
                have cy := blk_at hB Y (by omega)
                have cx := blk_at hB X (by omega)
                have hs := cnt_succ PA PB X Y
                rw [← HC.out] at hs
                have l1 : (Y : Int) < (n : Int) := by omega
                have l0 : (0 : Int) ≤ (Y : Int) := by omega
                have m1 : (X : Int) < (n : Int) := by omega
                have m0 : (0 : Int) ≤ (X : Int) := by omega
                by_cases hyx : Y = X
                · have HN : Hid (cnt PA PB X (Y + 1) = C) := by
                    have hbad : bad PA PB X Y = false := by simp [bad, hyx]
                    unfold Hid; rw [hs, hbad]; rfl
                  subst hyx
                  clear hs ay ax cy cx
                  go_wp2_with fail
                  go_quiet (fail)
                  go_wp2_with fail
                  go_roundw
                  case rel => exact ⟨Y + 1, C, by omega, by go_num, by first | rfl | go_num, by omega, HN.out.symm, hA, hB, below_drewN hbel _⟩
                  case measure => simp [intOf]; omega
                · have hne : ((Y : Int) != (X : Int)) = true := by rw [bne_iff_ne]; omega
                  by_cases h1 : PA.getD Y 0 < PA.getD X 0
                  · by_cases h2 : PB.getD X 0 < PB.getD Y 0
                    · have HN : Hid (cnt PA PB X (Y + 1) = C + 1) := by
                        have hbad : bad PA PB X Y = true := by unfold bad; simp only [Bool.and_eq_true, decide_eq_true_eq]; exact ⟨hyx, h1, h2⟩
                        unfold Hid; rw [hs, hbad]; rfl
                      clear hs
                      generalize PA.getD Y 0 = v1 at ay h1
                      generalize PA.getD X 0 = v2 at ax h1
                      generalize PB.getD Y 0 = v3 at cy h2
                      generalize PB.getD X 0 = v4 at cx h2
                      go_wp2_with fail
                      go_quiet (fail)
                      go_wp2_with fail
                      go_roundw
                      case rel => exact ⟨Y + 1, C + 1, by omega, by go_num, by first | rfl | go_num, by omega, HN.out.symm, hA, hB, below_drewN hbel _⟩
                      case measure => simp [intOf]; omega
                    · have HN : Hid (cnt PA PB X (Y + 1) = C) := by
                        have hbad : bad PA PB X Y = false := by
                          rw [Bool.eq_false_iff]
                          unfold bad; simp only [ne_eq, Bool.and_eq_true, decide_eq_true_eq]; exact fun h => h2 h.2.2
                        unfold Hid; rw [hs, hbad]; rfl
                      clear hs
                      have hd2 : decide (PB.getD X 0 < PB.getD Y 0) = false := by simpa using h2
                      clear h2
                      generalize PA.getD Y 0 = v1 at ay h1
                      generalize PA.getD X 0 = v2 at ax h1
                      generalize PB.getD Y 0 = v3 at cy hd2
                      generalize PB.getD X 0 = v4 at cx hd2
                      go_wp2_with fail
                      go_quiet (fail)
                      go_wp2_with fail
                      go_roundw
                      case rel => exact ⟨Y + 1, C, by omega, by go_num, by first | rfl | go_num, by omega, HN.out.symm, hA, hB, below_drewN hbel _⟩
                      case measure => simp [intOf]; omega
                  · have HN : Hid (cnt PA PB X (Y + 1) = C) := by
                      have hbad : bad PA PB X Y = false := by
                        rw [Bool.eq_false_iff]
                        unfold bad; simp only [ne_eq, Bool.and_eq_true, decide_eq_true_eq]; exact fun h => h1 h.2.1
                      unfold Hid; rw [hs, hbad]; rfl
                    clear hs
                    have hd1 : decide (PA.getD Y 0 < PA.getD X 0) = false := by simpa using h1
                    clear h1 cy cx
                    generalize PA.getD Y 0 = v1 at ay hd1
                    generalize PA.getD X 0 = v2 at ax hd1
                    go_wp2_with fail
                    go_quiet (fail)
                    go_wp2_with fail
                    go_roundw
                    case rel => exact ⟨Y + 1, C, by omega, by go_num, by first | rfl | go_num, by omega, HN.out.symm, hA, hB, below_drewN hbel _⟩
                    case measure => simp [intOf]; omega
              · obtain rfl : n = Y := by omega
                have hC1 : C ≤ 2 := by rw [HC.out]; exact HCN.out
                go_wp2_with fail
                go_roundw
                case rel => exact ⟨X + 1, by omega, by go_num, hA, hB, hbel⟩
                case measure => simp [intOf]; omega
          · go_wp2_with fail
            go_ret
            exact ⟨rfl, hbel⟩

end Go.Proofs.Qxb6001298a.Next
