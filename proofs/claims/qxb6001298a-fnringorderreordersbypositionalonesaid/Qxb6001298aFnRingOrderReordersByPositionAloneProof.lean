/-
  THE PROOF OF 'Rows.FnRingOrderReordersByPositionAloneSaid': the frame after the given shells of laws over slices, turned to a slice of strings; the walk by Qxb6001298aReorder.
-/
import Derived.Test.Qxb6001298aRows
import Derived.WalkKit
import Derived.ProofKit
import Derived.OpenShut
import Derived.ShutString
import Derived.ChangeOld
import Derived.Below
import Derived.SliceStrings
import Derived.Test.Qxb6001298aReorder
namespace Go.Proofs.Qxb6001298a.fnRingOrderReordersByPositionAlone
open Go.ChangeShapes Go.WideShapes Go.ChangeAt Go.RowKit
open Go.ChangeMaps (open_string shut_string)
set_option linter.unusedVariables false

theorem own : ownKnob Try.prog.godebug = none := by kernel_rfl
theorem laidOut : laidOutB Try.prog = true := by kernel_rfl

/-- What the walk is told of a slice of strings that came in: it is nil; or it leads to a row of 'cap' strings 'ss', the first 'len' of them its elements. -/
def IsRow (w : World) (a : Option Addr) (len cap : Nat) (ss : List ByteArray) : Prop :=
  (a = none ∧ len = 0 ∧ cap = 0 ∧ ss = []) ∨
  ∃ x, a = some x ∧ len ≤ cap ∧ cap ≤ maxLen ∧ ss.length = cap ∧ ∀ i, i < ss.length → w.cell? (x.add i) = some (.string (ss.getD i ByteArray.empty))

theorem row_open {w : World} {a : Option Addr} {len cap : Nat} {ss : List ByteArray} (h : IsRow w a len cap ss) :
    len ≤ maxLen ∧ (ss.take len).length = len ∧ ∃ b off, Strs.Row w a b off len (ss.take len) := by
  rcases h with ⟨rfl, rfl, rfl, rfl⟩ | ⟨x, rfl, hlc, hcm, hz, hcell⟩
  · exact ⟨by simp [maxLen], rfl, 0, 0, ⟨by omega, by omega, fun i hi => absurd hi (by omega)⟩⟩
  · have hl : (ss.take len).length = len := by simp; omega
    refine ⟨by omega, hl, ?_⟩
    by_cases h0 : 0 < len
    · obtain ⟨b, off, spot⟩ := x
      have hspot : spot = none := by simpa [Addr.add] using World.cell?_spot (hcell 0 (by omega))
      subst hspot
      have hc : ∀ j, j < ss.length → w.cell? ⟨b, off + j, none⟩ = some (.string (ss.getD j ByteArray.empty)) := fun j hj => by rw [← Go.WideShapes.add_plain]; exact hcell j hj
      refine ⟨b, off, ⟨fun _ => rfl, fun _ => World.block_lt_of_cell? w _ (hc 0 (by omega)), ?_⟩⟩
      intro i hi
      rw [hc i (by omega)]
      simp [hi]
    · exact ⟨0, 0, ⟨by omega, by omega, fun i hi => absurd hi (by omega)⟩⟩

theorem walk (a0 : Option Addr) (len0 cap0 : Nat) (z0 : List ByteArray) (a1 : Int) (w : World) (w0 : IsRow w a0 len0 cap0 z0) (w1 : (Lit.int .u64 a1).wf = true) :
    Calls Try.prog 3 #[.slice a0 len0 cap0, .int .u64 a1] w fun e w' => e = .returned (.bool true) ∧ Below w.heap.size w w' := by
  obtain ⟨hm, hl, b, off, hr⟩ := row_open w0
  have h1 := bounds_u64 w1
  unfold maxLen at hm
  obtain ⟨t, rfl⟩ := Int.eq_ofNat_of_zero_le (show 0 ≤ a1 by omega)
  exact Reorder.walk a0 b off len0 cap0 t (z0.take len0) w (by omega) (by omega) hr hl

/-! ### THE ROW's STEP: WRITTEN OUT: LEAVE IT -/
set_option maxRecDepth 100000 in
theorem lifted (os : Os) (started : os.Started) (H : Type) (enc : TypeId × Value → H) :
    ReturnsInHanded {} Try.checked os 3 .any (Rows.fnRingOrderReordersByPositionAloneSpec.pre6 enc Try.prog Try.f3 Rows.fnRingOrderReordersByPositionAloneRow.domain false) (Rows.fnRingOrderReordersByPositionAloneSpec.post enc Try.prog Try.f3 false true false false) := by
  refine returnsInHanded_of_change (C := Try.checked) own started (by kernel_rfl) Try.func3
    (ChangeSpec.witness6 (enc := enc) (C := Try.checked) false ⟨#[], #[.slice none 0 0, .int .u64 0], []⟩ 8 (by kernel_rfl) (by kernel_rfl) (by kernel_rfl) (by kernel_rfl)) ?_
  intro W base args ds gs before hval0 hW hcnd _
  have hval : ∀ (j : Nat) t v, Try.f3.params[j]? = some t → args[j]? = some v → Value.okWide Try.prog W .any base t v := hval0
  have hW' := hW
  obtain ⟨p, q, hA0, hV, rfl, hfz, hnd⟩ := hW
  have hA : DataW.TrodAll enc Try.prog W 0 (fun _ => true) true Try.f3.params.toList args.toList ds p := hA0
  rw [Try.params3] at hA hval
  obtain ⟨v0, vs0, d0, ds0, p0, q0, hargs, rfl, rfl, h0, r0⟩ := trodAll_cons hA
  obtain ⟨v1, vs1, d1, ds1, p1, q1, rfl, rfl, rfl, h1, r1⟩ := trodAll_cons r0
  obtain ⟨rfl, rfl, rfl⟩ := trodAll_nil r1
  obtain rfl : args = #[v0, v1] := by cases args; simp_all
  obtain ⟨rfl, rfl⟩ := trodVars_none hV
  obtain ⟨a0, len0, cap0, rfl⟩ := okWide_slice Try.underlying22 (hval 0 22 v0 rfl rfl)
  have k0 := h0
  have lt0 : ∀ x ∈ p0, x.block < W.heap.size := by obtain ⟨m, hm⟩ := k0; exact DataW.trod_lt m _ _ _ hm
  obtain ⟨z0, w0⟩ : ∃ ss, IsRow W a0 len0 cap0 ss := by
    obtain ⟨fuel, hf⟩ := h0
    rcases open_strings Try.underlying22 Try.underlying9 (by kernel_rfl) hf with ⟨hcs, _⟩ | ⟨x, l, c, ss, hcs, _, hl, hm, hz, _, hcell, _⟩
    · simp [Value.cells] at hcs
      obtain ⟨rfl, rfl, rfl⟩ := hcs
      exact ⟨[], .inl ⟨rfl, rfl, rfl, rfl⟩⟩
    · simp [Value.cells] at hcs
      obtain ⟨rfl, rfl, rfl⟩ := hcs
      exact ⟨ss, .inr ⟨_, rfl, hl, hm, by simpa using hz, hcell⟩⟩
  obtain ⟨a1, rfl, rfl, rfl, w1⟩ := open_int Try.underlying23 (hval 1 23 v1 rfl rfl) h1
  clear hA0 hval0
  refine (walk a0 len0 cap0 z0 a1 W w0 w1).mono fun e W' ⟨he, bel⟩ => ?_
  subst he
  exact ⟨_, rfl, _, _, _, [], _, [], hW', trodAll_mk1 (shut_bool Try.underlying4 _), (trodAll_cons_mk (Below.trod laidOut (by kernel_rfl) (of_decide_eq_true (by kernel_rfl)) k0 bel lt0) (trodAll_cons_mk (shut_int Try.underlying23 w1) trodAll_mk0)), rfl, bel.frame _, fun h => by cases h⟩

theorem over : Rows.fnRingOrderReordersByPositionAloneRow.holds Try.pinned (OpenSpec.ofChange Rows.fnRingOrderReordersByPositionAloneSpec) :=
  OpenClaim.holds_of_wide 3 Try.f3 rfl rfl rfl rfl rfl rfl rfl ⟨rfl, rfl, rfl, rfl, rfl⟩ rfl rfl rfl rfl rfl (by kernel_rfl) Try.func3 (by kernel_rfl)
    (of_decide_eq_true (by kernel_rfl)) (by unfold Func.isWrapper; first | (rw [if_pos (by decide +kernel)]; kernel_rfl) | (rw [if_neg (by decide +kernel)]; exact ⟨rfl, rfl⟩))
    (fun os started H enc _ => lifted os started H enc)

/-- THE STATEMENT -/
theorem proved : Rows.FnRingOrderReordersByPositionAloneSaid := over
end Go.Proofs.Qxb6001298a.fnRingOrderReordersByPositionAlone
