/-
  THE WALKS of zzStringsBytes, zzCloneStrs, and the bound on lengths of FnRingOrderReordersByPositionAlone.
-/
import Derived.Test.Qxb6001298aTurns
namespace Go.Proofs.Qxb6001298a.Strs
open Go.RowKit
set_option linter.unusedVariables false

/-- The elements of a slice of strings that came in: n of them, at ao. -/
structure Row (w : World) (ao : Option Addr) (b off n : Nat) (ss : List ByteArray) : Prop where
  at_ : 0 < n → ao = some ⟨b, off, none⟩
  lt : 0 < n → b < w.heap.size
  cell : ∀ i, i < n → w.cell? ⟨b, off + i, none⟩ = some (.string (ss.getD i ByteArray.empty))

/-- It returns one of the two, whichever. -/
def SomeBool (e : Ending) : Prop := ∃ B : Bool, e = .returned (.bool B)
/-- It returns an int, whichever. -/
def SomeInt (e : Ending) : Prop := ∃ T : Int, e = .returned (.int .i64 T)

set_option maxHeartbeats 1000000 in
theorem bytes9 (ao : Option Addr) (b off n cap : Nat) (turn : Int) (ss : List ByteArray) (w : World) (hr : Row w ao b off n ss) (hn : n ≤ 9223372036854775807) :
    Calls Try.prog 9 #[.slice ao n cap, .int .u64 turn] w fun e w' => SomeBool e ∧ w' = w := by
  by_cases h0 : 1048576 < n
  · go_enter Try.func9, Try.ntmps9
    go_wp2
    go_ret
    exact ⟨⟨_, rfl⟩, rfl⟩
  · go_enter Try.func9, Try.ntmps9
    go_wp2_with fail
    go_loop [5, 6] (fun z i => ∃ (k : Nat) (Z : Int), k ≤ n ∧ i = .int .i64 k ∧ z = .int .i64 Z) (fun _ i => n - (intOf i).toNat)
    case atStart => exact ⟨0, _, Nat.zero_le _, rfl, rfl⟩
    case round =>
      obtain ⟨k, Z, hk, rfl, rfl⟩ := hrel
      by_cases hlt : k < n
      · obtain rfl := hr.at_ (by omega)
        have hc := hr.cell k hlt
        generalize ss.getD k ByteArray.empty = s at hc
        by_cases h1 : 1048576 < (s.size : Int)
        · go_wp2
          go_ret
          exact ⟨⟨_, rfl⟩, rfl⟩
        · by_cases h2 : 1048576 < wrap64 (Z + (s.size : Int))
          · go_wp2_with fail
            go_ret
            exact ⟨⟨_, rfl⟩, rfl⟩
          · go_wp2_with fail
            go_round
            case rel => exact ⟨k + 1, _, by omega, by go_num, rfl⟩
            case measure => simp [intOf]; omega
      · go_wp2_with fail
        go_ret
        exact ⟨⟨_, rfl⟩, rfl⟩

set_option maxHeartbeats 1000000 in
theorem bytes10 (ao : Option Addr) (b off n cap : Nat) (ss : List ByteArray) (w : World) (hr : Row w ao b off n ss) (hn : n ≤ 1048576) :
    Calls Try.prog 10 #[.slice ao n cap] w fun e w' => SomeInt e ∧ w' = w := by
  go_enter Try.func10, Try.ntmps10
  go_wp2_with fail
  go_loop [3, 4] (fun z i => ∃ (k : Nat) (Z : Int), k ≤ n ∧ i = .int .i64 k ∧ z = .int .i64 Z) (fun _ i => n - (intOf i).toNat)
  case atStart => exact ⟨0, _, Nat.zero_le _, rfl, rfl⟩
  case round =>
    obtain ⟨k, Z, hk, rfl, rfl⟩ := hrel
    by_cases hlt : k < n
    · obtain rfl := hr.at_ (by omega)
      have hc := hr.cell k hlt
      generalize ss.getD k ByteArray.empty = s at hc
      by_cases h2 : 1048576 < wrap64 (Z + (s.size : Int))
      · go_wp2_with fail
        go_ret
        exact ⟨⟨_, rfl⟩, rfl⟩
      · go_wp2_with fail
        go_round
        case rel => exact ⟨k + 1, _, by omega, by go_num, rfl⟩
        case measure => simp [intOf]; omega
    · go_wp2_with fail
      go_ret
      exact ⟨⟨_, rfl⟩, rfl⟩

set_option maxHeartbeats 1000000 in
theorem clone (b off n cap : Nat) (ss : List ByteArray) (w : World) (hn : n ≤ 65536) (hb : b < w.heap.size) (hl : Hid (ss.length = n))
    (hc : Hid (∀ i, i < n → w.cell? ⟨b, off + i, none⟩ = some (.string (ss.getD i ByteArray.empty)))) :
    Calls Try.prog 11 #[.slice (some ⟨b, off, none⟩) n cap] w fun e w' => e = .returned (.slice (some ⟨w.heap.size, 0, none⟩) n n) ∧ Blk w' w.heap.size 9 (ss.map Value.string) ∧ Below w.heap.size w w' := by
  obtain ⟨i0, hi, hz0, hz1, hz2⟩ := info_parts Labels.info9
  have hnil := fun (wx : World) => Lib.run_eql_slice_nil (P := Try.prog) wx 22 9 (some ⟨b, off, none⟩) n cap 0 0 Try.underlying22
  go_enter Try.func11, Try.ntmps11
  go_wp2_with (at_make; refine wpList_make_full _ rfl _ _ 22 rfl w.heap.size 9 i0 (.string ⟨#[]⟩) 1 Try.underlying22 hi hz0 hz1 _ _ _ _ n rfl rfl rfl rfl (by rw [hz2]; omega) (by unfold maxLen; omega) (Nat.le_refl _) ?_; intro w1 hown1 hgrow1)
  have hb1 := blk_made (z := .string ⟨#[]⟩) rfl hown1
  have hbel1 : Below w.heap.size w w1 := (Below.refl _ _).grown hgrow1 (Nat.le_refl _) (by simp)
  clear hown1 hgrow1 hi hz0 hz1 hz2 hnil
  go_loopw [4] (fun i wr => ∃ k : Nat, k ≤ n ∧ i = .int .i64 k ∧ Blk wr w.heap.size 9 ((ss.take k).map Value.string ++ List.replicate (n - (ss.take k).length) (.string ⟨#[]⟩)) ∧ Below w.heap.size w wr) (fun i _ => n - (intOf i).toNat)
  case atStart => exact ⟨0, Nat.zero_le _, rfl, by simpa using hb1, hbel1⟩
  case round =>
    obtain ⟨k, hk, rfl, hblk, hbel⟩ := hrel
    clear hb1 hbel1
    by_cases hlt : k < n
    · have hcell : wr.cell? ⟨b, off + k, none⟩ = some (.string (ss.getD k ByteArray.empty)) := (hbel.cell (by exact hb)).trans (hc.out k hlt)
      have hls := hl.out
      have hkl : k < ss.length := by omega
      have htl : (ss.take k).length = k := by simp; omega
      have hset := hblk.set (ss.take k).length (.string (ss.getD k ByteArray.empty))
      rw [Labels.step_strs (ss.take k) n _ (by omega)] at hset
      have htk : ss.take k ++ [ss.getD k ByteArray.empty] = ss.take (k + 1) := by
        rw [List.take_succ_eq_append_getElem hkl]; simp [hkl]
      rw [htk, htl] at hset
      obtain ⟨s, HS⟩ : ∃ x, Hid (x = ss.getD k ByteArray.empty) := ⟨_, rfl⟩
      rw [← HS.out] at hcell hset
      have ST : Hid (Blk (wr.setCell ⟨w.heap.size, k, none⟩ (.string s)) w.heap.size 9 ((ss.take (k + 1)).map Value.string ++ List.replicate (n - (ss.take (k + 1)).length) (.string ⟨#[]⟩))) := hset
      obtain ⟨old, hold⟩ : ∃ old, wr.cell? ⟨w.heap.size, k, none⟩ = some old := by
        rw [hblk.cell]
        exact ⟨_, List.getElem?_eq_getElem (by simp; omega)⟩
      have hfr := hblk.frozen k
      clear hset hblk htk htl hls
      go_wp2_with fail
      go_roundw
      case rel => exact ⟨k + 1, by omega, by go_num, ST.out, hbel.setCell (Nat.le_refl _) _⟩
      case measure => simp [intOf]; omega
    · obtain rfl : n = k := by omega
      have hls := hl.out
      go_wp2_with fail
      go_ret
      exact ⟨rfl, by simpa [← hls] using hblk, hbel⟩

end Go.Proofs.Qxb6001298a.Strs
