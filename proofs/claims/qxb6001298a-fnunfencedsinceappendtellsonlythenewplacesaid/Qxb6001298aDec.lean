/-
  THE WALKS of zzItoa and zzParse: a number's decimal text, and back.
-/
import Derived.Test.Qxb6001298aBlk
import Derived.Outline
import Derived.Laws.IdiomStrings
namespace Go.Proofs.Qxb6001298a.Dec
open Go.RowKit

/-- buf behind k digits. -/
def bufAt (t : List UInt8) : List Value := List.replicate (24 - t.length) (.int .u8 0) ++ t.map (fun c => .int .u8 (c.toNat : Int))

theorem bufAt_len (t : List UInt8) (h : t.length ≤ 24) : (bufAt t).length = 24 := by simp [bufAt]; omega

theorem bufAt_set (t : List UInt8) (c : UInt8) (h : t.length < 24) : (bufAt t).set (23 - t.length) (.int .u8 (c.toNat : Int)) = bufAt (c :: t) := by
  unfold bufAt
  have e : 24 - t.length = (23 - t.length) + 1 := by omega
  rw [e, List.replicate_succ', List.append_assoc, List.set_append_right _ _ (by simp)]
  simp

theorem bufAt_get (t : List UInt8) (j : Nat) (hj : j < t.length) : (bufAt t)[24 - t.length + j]? = some (.int .u8 (t[j].toNat : Int)) := by
  unfold bufAt
  rw [List.getElem?_append_right (by simp)]
  simp [hj]

theorem len85 : Try.prog.arrayLen 85 = 24 := by kernel_rfl
theorem elem85 : Try.prog.elem 85 = 5 := by kernel_rfl
theorem und85 : Try.prog.underlying 85 = some (.array (Try.prog.arrayLen 85) (Try.prog.elem 85)) := by kernel_rfl
theorem size5 (w : World) : (sizeOf 5).run Try.prog w = .ok 1 w := by kernel_rfl

theorem slice_buf (w : World) (g P : Nat) (hP : P < 24) :
    (Instr.sliceAt 85 (.pointer (some ⟨g, 0, none⟩)) (some (.int .i64 (P : Int))) none none).run Try.prog w = .ok (.slice (some ⟨g, P, none⟩) (24 - P) (24 - P)) w := by
  rw [run_sliceAt_array_l w 85 _ und85 .i64 (P : Int) (by omega) (by rw [len85]; omega), elem85, size5, len85]
  show Result.ok (slicedAt ⟨g, 0, none⟩ (P : Int).toNat 24 24 1) w = _
  unfold slicedAt
  rw [Int.toNat_natCast, if_neg (by omega), Nat.mul_one, Addr.add_lit, Nat.zero_add]

set_option maxHeartbeats 400000 in
theorem itoa (i : Nat) (w : World) (hi : i < 1000000000) :
    Calls Try.prog 29 #[.int .i64 i] w fun e w' => ∃ s : ByteArray, e = .returned (.string s) ∧ DecOf s i ∧ Below w.heap.size w w' := by
  by_cases h0 : i = 0
  · subst h0
    go_enter Try.func29, Try.ntmps29
    go_wp2
    go_ret
    exact ⟨_, rfl, ⟨by decide, by decide, (by intro c hc; simp at hc; subst hc; decide), by decide⟩, Below.refl _ _⟩
  · have hb0 : ((i : Int) == 0) = false := beq_eq_false_iff_ne.2 (by omega)
    go_enter Try.func29, Try.ntmps29
    go_wp2_with fail
    go_loopw [0, 4] (fun x q wr => ∃ (y P : Nat) (t : List UInt8), x = .int .i64 y ∧ q = .int .i64 P ∧ P ≤ 24 ∧ 15 ≤ P ∧ Hid (P + t.length = 24) ∧ y ≤ i ∧ Hid (Digits t) ∧ Hid (val t + y * 10 ^ t.length = i) ∧ Blk wr w.heap.size 85 (bufAt t) ∧ Below w.heap.size w wr) (fun x _ _ => (intOf x).toNat)
    case atStart => exact ⟨i, 24, [], rfl, rfl, by omega, by omega, rfl, Nat.le_refl _, (by intro c hc; cases hc), by unfold Hid; simp [val], heap_alloc_new w _, (Below.refl _ _).alloc (Nat.le_refl _) _⟩
    case round =>
      obtain ⟨y, P, t, rfl, rfl, hP1, hP2, HP, hyi, HD, HV, hblk, hbel⟩ := hrel
      by_cases hy : 0 < y
      · have hk : t.length < 9 := by
          have := HP.out
          rcases Nat.lt_or_ge t.length 9 with h | h
          · exact h
          · have h1 : 10 ^ 9 ≤ 10 ^ t.length := Nat.pow_le_pow_right (by decide) h
            have h2 : 1 * 10 ^ t.length ≤ y * 10 ^ t.length := Nat.mul_le_mul_right _ hy
            have := HV.out
            omega
        have hP3 : 16 ≤ P := by have := HP.out; omega
        obtain ⟨c, HC⟩ : ∃ c : UInt8, Hid (c.toNat = 48 + y % 10) := ⟨UInt8.ofNat (48 + y % 10), by unfold Hid; simp; omega⟩
        have eP : 23 - t.length = P - 1 := by have := HP.out; omega
        have hset := hblk.set (23 - t.length) (.int .u8 (c.toNat : Int))
        rw [bufAt_set t c (by omega), eP, show ((c.toNat : Nat) : Int) = 48 + (y : Int) % 10 by have := HC.out; omega] at hset
        obtain ⟨old, hcell⟩ : ∃ old, wr.cell? ⟨w.heap.size, P - 1, none⟩ = some old := by
          rw [hblk.cell]
          exact ⟨_, List.getElem?_eq_getElem (by have := HP.out; rw [bufAt_len t (by omega)]; omega)⟩
        have hfr := hblk.frozen (P - 1)
        have HS : Hid (Blk (wr.setCell ⟨w.heap.size, P - 1, none⟩ (.int .u8 (48 + (y : Int) % 10))) w.heap.size 85 (bufAt (c :: t))) := hset
        clear hset eP hblk
        go_wp2_with fail
        go_roundw
        case rel =>
          refine ⟨y / 10, P - 1, c :: t, by go_num, by go_num, by omega, by omega, by unfold Hid; have := HP.out; simp; omega, by omega, ?_, ?_, HS.out, hbel.setCell (Nat.le_refl _) _⟩
          · intro d hd
            rcases List.mem_cons.1 hd with h | h
            · subst h; have := HC.out; omega
            · exact HD.out d h
          · unfold Hid
            have := HC.out
            simp only [val, List.length_cons, Nat.pow_succ]
            rw [show c.toNat - 48 = y % 10 by omega]
            have h1 := HV.out
            have h2 : y = 10 * (y / 10) + y % 10 := by omega
            have h3 : y * 10 ^ t.length = (y / 10) * (10 ^ t.length * 10) + y % 10 * 10 ^ t.length := by
              conv => lhs; rw [h2]
              rw [Nat.add_mul, Nat.mul_comm 10 (y / 10), Nat.mul_assoc, Nat.mul_comm 10]
            omega
        case measure => simp [intOf]; omega
      · obtain rfl : y = 0 := by omega
        have hconv : (convert 86 9 (.slice (some ⟨w.heap.size, P, none⟩) t.length t.length)).run Try.prog wr = .ok (.string ⟨t.toArray⟩) wr :=
          run_convert_bytes_back wr 86 9 5 ⟨w.heap.size, P, none⟩ t.length t Try.underlying86 Try.underlying5 Try.underlying9 (fun j hj => by
            rw [Addr.add_lit, hblk.cell, show P = 24 - t.length by have := HP.out; omega]
            exact bufAt_get t j hj)
        rw [show t.length = 24 - P by have := HP.out; omega] at hconv
        have HC : Hid ((convert 86 9 (.slice (some ⟨w.heap.size, P, none⟩) (24 - P) (24 - P))).run Try.prog wr = .ok (.string ⟨t.toArray⟩) wr) := hconv
        have ht0 : t.length ≠ 0 := by
          intro e
          have h1 := List.eq_nil_of_length_eq_zero e
          have h2 := HV.out
          rw [h1] at h2
          simp [val] at h2
          omega
        have hsl := fun wx => slice_buf wx w.heap.size P (by have := HP.out; omega)
        go_wp2_with fail
        go_ret
        refine ⟨_, rfl, ⟨?_, ?_, ?_, ?_⟩, hbel⟩
        · show 1 ≤ t.toArray.size
          simp; omega
        · show t.toArray.size ≤ 9
          have := HP.out
          simp; omega
        · exact HD.out
        · have := HV.out
          show val t = i
          omega

theorem take_snoc (s : ByteArray) (k : Nat) (h : k < s.size) : s.data.toList.take (k + 1) = s.data.toList.take k ++ [s[k]] := by
  rw [List.take_succ_eq_append_getElem (by simpa using h)]; rfl

set_option maxHeartbeats 400000 in
theorem parse (s : ByteArray) (i : Nat) (w : World) (h : DecOf s i) :
    Calls Try.prog 27 #[.string s] w fun e w' => e = .returned (.tuple #[.int .i64 i, .bool true]) ∧ w' = w := by
  obtain ⟨h1, h9, hd, hv⟩ := h
  have hs0 : ((s.size : Int) == 0) = false := beq_eq_false_iff_ne.2 (by omega)
  have HV : Hid (val s.data.toList = i) := hv
  have HD : Hid (Digits s.data.toList) := hd
  clear hv hd
  go_enter Try.func27, Try.ntmps27
  go_wp2_with fail
  go_loop [4, 5] (fun v j => ∃ (k V : Nat), k ≤ s.size ∧ j = .int .i64 k ∧ v = .int .i64 V ∧ V < 1000000000 ∧ Hid (V = val (s.data.toList.take k))) (fun _ j => s.size - (intOf j).toNat)
  case atStart => exact ⟨0, 0, Nat.zero_le _, rfl, rfl, by omega, rfl⟩
  case round =>
    obtain ⟨k, V, hk, rfl, rfl, hV, HVV⟩ := hrel
    by_cases hlt : k < s.size
    · have hc := HD.out s[k] (by
        have : s[k] = s.data.toList[k]'(by simpa using hlt) := rfl
        rw [this]; exact List.getElem_mem _)
      obtain ⟨c1, c2⟩ := hc
      have hv1 : val (s.data.toList.take (k + 1)) = V * 10 + (s[k].toNat - 48) := by rw [take_snoc s k hlt, val_snoc, ← HVV.out]
      have hlt2 : val (s.data.toList.take (k + 1)) < 1000000000 := by
        have h2 := val_lt (s.data.toList.take (k + 1)) (fun c hc => HD.out c (List.mem_of_mem_take hc))
        have h3 : (s.data.toList.take (k + 1)).length ≤ 9 := by simp; omega
        have h4 : 10 ^ (s.data.toList.take (k + 1)).length ≤ 10 ^ 9 := Nat.pow_le_pow_right (by decide) h3
        omega
      rw [hv1] at hlt2
      have HN : Hid (val (s.data.toList.take (k + 1)) = V * 10 + (s[k].toNat - 48)) := hv1
      clear hv1
      go_wp2_with fail
      go_round
      case rel => exact ⟨k + 1, V * 10 + (s[k].toNat - 48), by omega, by go_num, congrArg (Value.int .i64) (by omega), hlt2, HN.out.symm⟩
      case measure => simp [intOf]; omega
    · obtain rfl : i = V := by rw [HVV.out, List.take_of_length_le (by simp; omega), HV.out]
      go_wp2_with fail
      go_ret2
      exact ⟨rfl, rfl⟩

end Go.Proofs.Qxb6001298a.Dec
