/-
  THE WALKS of zzMsgBytes and of the bound on lengths of FnUnfencedSinceAppendTellsOnlyTheNewPlace.
-/
import Derived.Test.Qxb6001298aSince
namespace Go.Proofs.Qxb6001298a
open Go.RowKit
set_option linter.unusedVariables false

def zeroRep : Rep := (⟨#[]⟩, zeroRec)
/-- The elements of a slice of reports that came in: n of them, at ao. -/
structure RepRow (w : World) (ao : Option Addr) (b off n : Nat) (ps : List Rep) : Prop where
  at_ : 0 < n → ao = some ⟨b, off, none⟩
  lt : 0 < n → b < w.heap.size
  cell : ∀ i, i < n → w.rangeAt b (off + i * 6) (repC (ps.getD i zeroRep))
/-- The elements of a slice of records that came in: n of them, at ao. -/
structure RecRow (w : World) (ao : Option Addr) (b off n : Nat) (ps : List Rec) : Prop where
  at_ : 0 < n → ao = some ⟨b, off, none⟩
  lt : 0 < n → b < w.heap.size
  cell : ∀ i, i < n → w.rangeAt b (off + i * 5) (recC (ps.getD i zeroRec))

theorem Strs.Row.below {w w' : World} {ao : Option Addr} {b off n : Nat} {ss : List ByteArray} (h : Strs.Row w ao b off n ss) (hb : Below w.heap.size w w') : Strs.Row w' ao b off n ss where
  at_ := h.at_
  lt := fun h0 => Nat.lt_of_lt_of_le (h.lt h0) hb.size
  cell := fun i hi => (hb.cell (p := ⟨b, off + i, none⟩) (h.lt (by omega))).trans (h.cell i hi)
theorem RepRow.below {w w' : World} {ao : Option Addr} {b off n : Nat} {ss : List Rep} (h : RepRow w ao b off n ss) (hb : Below w.heap.size w w') : RepRow w' ao b off n ss where
  at_ := h.at_
  lt := fun h0 => Nat.lt_of_lt_of_le (h.lt h0) hb.size
  cell := fun i hi j v hv => (hb.cell (p := ⟨b, _, none⟩) (h.lt (by omega))).trans (h.cell i hi j v hv)
theorem RecRow.below {w w' : World} {ao : Option Addr} {b off n : Nat} {ss : List Rec} (h : RecRow w ao b off n ss) (hb : Below w.heap.size w w') : RecRow w' ao b off n ss where
  at_ := h.at_
  lt := fun h0 => Nat.lt_of_lt_of_le (h.lt h0) hb.size
  cell := fun i hi j v hv => (hb.cell (p := ⟨b, _, none⟩) (h.lt (by omega))).trans (h.cell i hi j v hv)

namespace BytesW
open Strs (SomeBool SomeInt)

set_option maxRecDepth 20000 in
set_option maxHeartbeats 4000000 in
theorem bytes21 (p0 p2 : Rep) (ao1 ao3 ao4 : Option Addr) (b1 o1 n1 c1 b3 o3 n3 c3 b4 o4 n4 c4 : Nat) (ps : List Rep) (ss : List ByteArray) (rs : List Rec) (w : World)
    (h1 : RepRow w ao1 b1 o1 n1 ps) (h3 : Strs.Row w ao3 b3 o3 n3 ss) (h4 : RecRow w ao4 b4 o4 n4 rs) (m1 : n1 ≤ 9223372036854775807) (m3 : n3 ≤ 9223372036854775807) (m4 : n4 ≤ 9223372036854775807) :
    Calls Try.prog 21 #[.agg (repC p0).toArray, .slice ao1 n1 c1, .agg (repC p2).toArray, .slice ao3 n3 c3, .slice ao4 n4 c4] w fun e w' => SomeBool e ∧ Below w.heap.size w w' := by
  obtain ⟨f, s, e, i, u, t⟩ := p0
  obtain ⟨f', s', e', i', u', t'⟩ := p2
  show Calls Try.prog 21 #[.agg #[.string f, .string s, .int .u64 e, .int .u64 i, .int .u64 u, .bool t], .slice ao1 n1 c1, .agg #[.string f', .string s', .int .u64 e', .int .u64 i', .int .u64 u', .bool t'], .slice ao3 n3 c3, .slice ao4 n4 c4] w _
  have hb : Below w.heap.size w ((w.alloc (.cells #[.string f, .string s, .int .u64 e, .int .u64 i, .int .u64 u, .bool t] 37)).alloc (.cells #[.string f', .string s', .int .u64 e', .int .u64 i', .int .u64 u', .bool t'] 37)) :=
    ((Below.refl _ _).alloc (Nat.le_refl _) _).alloc (by simp) _
  have h1 := h1.below hb
  have h3 := h3.below hb
  have h4 := h4.below hb
  have HB : Hid (Below w.heap.size w ((w.alloc (.cells #[.string f, .string s, .int .u64 e, .int .u64 i, .int .u64 u, .bool t] 37)).alloc (.cells #[.string f', .string s', .int .u64 e', .int .u64 i', .int .u64 u', .bool t'] 37))) := hb
  clear hb
  go_enter Try.func21, Try.ntmps21
  go_wp2_with fail
  any_goals (go_ret; exact ⟨⟨_, rfl⟩, HB.out⟩)
  go_loop [11, 12] (fun z i => ∃ (k : Nat) (Z : Int), k ≤ n1 ∧ i = .int .i64 k ∧ z = .int .i64 Z) (fun _ i => n1 - (intOf i).toNat)
  case atStart => exact ⟨0, _, Nat.zero_le _, rfl, rfl⟩
  case round =>
    obtain ⟨k, Z, hk, rfl, rfl⟩ := hrel
    by_cases hlt : k < n1
    · obtain rfl := h1.at_ (by omega)
      have hc := h1.cell k hlt
      generalize ps.getD k zeroRep = p at hc
      have c0 := hc 0 _ rfl
      have c1 := hc 1 _ rfl
      rw [Nat.add_zero] at c0
      clear hc
      go_wp2_with fail
      any_goals (go_ret; exact ⟨⟨_, rfl⟩, HB.out⟩)
      go_round
      case rel => exact ⟨k + 1, _, by omega, by go_num, rfl⟩
      case measure => simp [intOf]; omega
    · go_wp2_with fail
      any_goals (go_ret; exact ⟨⟨_, rfl⟩, HB.out⟩)
      go_loop [11, 13] (fun z i => ∃ (k : Nat) (Z : Int), k ≤ n3 ∧ i = .int .i64 k ∧ z = .int .i64 Z) (fun _ i => n3 - (intOf i).toNat)
      case atStart => exact ⟨0, _, Nat.zero_le _, rfl, rfl⟩
      case round =>
        clear hlt hk
        obtain ⟨k, Z, hk, rfl, rfl⟩ := hrel
        by_cases hlt : k < n3
        · obtain rfl := h3.at_ (by omega)
          have hc := h3.cell k hlt
          generalize ss.getD k ByteArray.empty = s at hc
          go_wp2_with fail
          any_goals (go_ret; exact ⟨⟨_, rfl⟩, HB.out⟩)
          go_round
          case rel => exact ⟨k + 1, _, by omega, by go_num, rfl⟩
          case measure => simp [intOf]; omega
        · go_wp2_with fail
          any_goals (go_ret; exact ⟨⟨_, rfl⟩, HB.out⟩)
          go_loop [11, 14] (fun z i => ∃ (k : Nat) (Z : Int), k ≤ n4 ∧ i = .int .i64 k ∧ z = .int .i64 Z) (fun _ i => n4 - (intOf i).toNat)
          case atStart => exact ⟨0, _, Nat.zero_le _, rfl, rfl⟩
          case round =>
            clear hlt hk
            obtain ⟨k, Z, hk, rfl, rfl⟩ := hrel
            by_cases hlt : k < n4
            · obtain rfl := h4.at_ (by omega)
              have hc := h4.cell k hlt
              generalize rs.getD k zeroRec = p at hc
              have c0 := hc 0 _ rfl
              rw [Nat.add_zero] at c0
              clear hc
              go_wp2_with fail
              any_goals (go_ret; exact ⟨⟨_, rfl⟩, HB.out⟩)
              go_round
              case rel => exact ⟨k + 1, _, by omega, by go_num, rfl⟩
              case measure => simp [intOf]; omega
            · go_wp2_with fail
              go_ret
              exact ⟨⟨_, rfl⟩, HB.out⟩

theorem bytes22 (p : Rep) (w : World) : Calls Try.prog 22 #[.agg (repC p).toArray] w fun o w' => SomeInt o ∧ Below w.heap.size w w' := by
  obtain ⟨f, s, e, i, u, t⟩ := p
  exact RecW.bytes22 f s e i u t w
theorem size37 : (Try.prog.info? 37).map (·.size) = some 6 := by kernel_rfl
theorem size35 : (Try.prog.info? 35).map (·.size) = some 5 := by kernel_rfl

set_option maxRecDepth 20000 in
set_option maxHeartbeats 4000000 in
theorem bytes16 (p0 : Rep) (ao1 ao3 ao4 : Option Addr) (b1 o1 n1 c1 b3 o3 n3 c3 b4 o4 n4 c4 : Nat) (ps : List Rep) (ss : List ByteArray) (rs : List Rec) (w : World)
    (h1 : RepRow w ao1 b1 o1 n1 ps) (h3 : Strs.Row w ao3 b3 o3 n3 ss) (h4 : RecRow w ao4 b4 o4 n4 rs) (m1 : n1 ≤ 65536) (m3 : n3 ≤ 65536) (m4 : n4 ≤ 65536) :
    Calls Try.prog 16 #[.agg (repC p0).toArray, .slice ao1 n1 c1, .slice ao3 n3 c3, .slice ao4 n4 c4] w fun e w' => SomeInt e ∧ Below w.heap.size w w' := by
  obtain ⟨f, s, e, i, u, t⟩ := p0
  show Calls Try.prog 16 #[.agg #[.string f, .string s, .int .u64 e, .int .u64 i, .int .u64 u, .bool t], .slice ao1 n1 c1, .slice ao3 n3 c3, .slice ao4 n4 c4] w _
  have hb : Below w.heap.size w (w.alloc (.cells #[.string f, .string s, .int .u64 e, .int .u64 i, .int .u64 u, .bool t] 37)) := (Below.refl _ _).alloc (Nat.le_refl _) _
  have HI37 : Hid ((Try.prog.info? 37).map (·.size) = some 6) := size37
  go_enter Try.func16, Try.ntmps16
  go_wp2_with fail
  refine (RecW.bytes22 f s e i u t _).mono ?_
  rintro x w1 ⟨⟨T, rfl⟩, hb1⟩
  have hb1 := hb.trans (hb1.mono (by simp))
  clear hb
  go_wp2_with fail
  go_loopw [9, 10] (fun z i wr => ∃ (k : Nat) (Z : Int), k ≤ n1 ∧ i = .int .i64 k ∧ z = .int .i64 Z ∧ Below w.heap.size w wr) (fun _ i _ => n1 - (intOf i).toNat)
  case atStart => exact ⟨0, _, Nat.zero_le _, rfl, rfl, hb1⟩
  case round =>
    obtain ⟨k, Z, hk, rfl, rfl, hbel⟩ := hrel
    by_cases hlt : k < n1
    · obtain rfl := h1.at_ (by omega)
      have hc := (h1.below hbel).cell k hlt
      generalize ps.getD k zeroRep = p at hc
      have HC : Hid (wr.rangeAt b1 (o1 + k * 6) (repC p)) := hc
      clear hc
      go_wp2_with (refine wpList_load_mid rfl 37 (.tmp 23) rfl b1 (o1 + k * 6) rfl (repC p) _ (by exact HC.out) Try.underlying37 rfl (by exact HI37.out) ?_)
      refine (bytes22 p _).mono ?_
      rintro x w2 ⟨⟨T, rfl⟩, hb2⟩
      have hb2 := hbel.trans (hb2.mono hbel.size)
      clear HC
      go_wp2_with fail
      any_goals (go_ret; exact ⟨⟨_, rfl⟩, hb2⟩)
      go_roundw
      case rel => exact ⟨k + 1, _, by omega, by go_num, rfl, hb2⟩
      case measure => simp [intOf]; omega
    · clear hb1
      go_wp2_with fail
      refine (Strs.bytes10 ao3 b3 o3 n3 c3 ss _ (h3.below hbel) (by omega)).mono ?_
      rintro x w2 ⟨⟨T, rfl⟩, rfl⟩
      go_wp2_with fail
      any_goals (go_ret; exact ⟨⟨_, rfl⟩, hbel⟩)
      have h4' := h4.below hbel
      go_loop [9, 11] (fun z i => ∃ (k : Nat) (Z : Int), k ≤ n4 ∧ i = .int .i64 k ∧ z = .int .i64 Z) (fun _ i => n4 - (intOf i).toNat)
      case atStart => exact ⟨0, _, Nat.zero_le _, rfl, rfl⟩
      case round =>
        clear hlt hk
        obtain ⟨k, Z, hk, rfl, rfl⟩ := hrel
        by_cases hlt : k < n4
        · obtain rfl := h4.at_ (by omega)
          have hc := h4'.cell k hlt
          generalize rs.getD k zeroRec = p at hc
          have c0 := hc 0 _ rfl
          rw [Nat.add_zero] at c0
          clear hc
          go_wp2_with fail
          any_goals (go_ret; exact ⟨⟨_, rfl⟩, hbel⟩)
          go_round
          case rel => exact ⟨k + 1, _, by omega, by go_num, rfl⟩
          case measure => simp [intOf]; omega
        · go_wp2_with fail
          go_ret
          exact ⟨⟨_, rfl⟩, hbel⟩

end BytesW
end Go.Proofs.Qxb6001298a
