/-
  THE PROOF OF 'Rows.FnPlaceOccupancyOrderFreeSaid': the given shell's frame; the walk by Qxb6001005aOrder.
-/
import Derived.Test.Qxb6001005aRows
import Derived.WalkKit
import Derived.ProofKit
import Derived.OpenShut
import Derived.ShutString
import Derived.ChangeOld
import Derived.Below
import Derived.Test.Qxb6001005aOrder
namespace Go.Proofs.Qxb6001005a.fnPlaceOccupancyOrderFree
open Go.ChangeShapes Go.WideShapes Go.ChangeAt Go.RowKit
open Go.ChangeMaps (open_string shut_string)
set_option linter.unusedVariables false

theorem own : ownKnob Try.prog.godebug = none := by kernel_rfl
theorem laidOut : laidOutB Try.prog = true := by kernel_rfl

/-- WHAT THE WALK IS TOLD OF A SLICE OF INTEGERS THAT CAME IN: it is nil; or it leads to a row of 'cap' cells, the numbers 'zs' (the first 'len' are its elements, the rest its spare room), each fitting its kind. -/
def IsRow (k : IntKind) (w : World) (a : Option Addr) (len cap : Nat) (zs : List Int) : Prop :=
  (a = none ∧ len = 0 ∧ cap = 0 ∧ zs = []) ∨
  ∃ x, a = some x ∧ len ≤ cap ∧ cap ≤ maxLen ∧ zs.length = cap ∧ (∀ i, i < zs.length → w.cell? (x.add i) = some (.int k (zs.getD i 0))) ∧ ∀ n ∈ zs, (Lit.int k n).wf = true

/-! ### THE WALK -/
/-- The elements of a row that is not empty: where they lie. -/
theorem row_open {w : World} {a : Option Addr} {len cap : Nat} {zs : List Int} (h : IsRow .u32 w a len cap zs) :
    len ≤ maxLen ∧ (zs.take len).length = len ∧ (0 < len → ∃ b off, a = some ⟨b, off, none⟩ ∧ b < w.heap.size ∧
      ∀ i, i < len → w.cell? ⟨b, off + i, none⟩ = some (.int .u32 ((zs.take len).getD i 0))) := by
  rcases h with ⟨rfl, rfl, rfl, rfl⟩ | ⟨x, rfl, hlc, hcm, hz, hcell, hwf⟩
  · exact ⟨by simp [maxLen], rfl, by omega⟩
  · have hl : (zs.take len).length = len := by simp; omega
    refine ⟨by omega, hl, fun h0 => ?_⟩
    obtain ⟨b, off, rfl, hc⟩ := ints_at hcell (by omega)
    refine ⟨b, off, rfl, World.block_lt_of_cell? w _ (hc 0 (by omega)), ?_⟩
    intro i hi
    rw [hc i (by omega)]
    simp [hi]

set_option maxHeartbeats 1000000 in
theorem walk (a0 : Option Addr) (len0 cap0 : Nat) (z0 : List Int) (a1 : Int) (a2 : Int) (a3 : Int) (a4 : Int) (w : World) (w0 : IsRow .u32 w a0 len0 cap0 z0) (w1 : (Lit.int .u32 a1).wf = true) (w2 : (Lit.int .u32 a2).wf = true) (w3 : (Lit.int .u64 a3).wf = true) (w4 : (Lit.int .u64 a4).wf = true) :
    Calls Try.prog 10 #[.slice a0 len0 cap0, .int .u32 a1, .int .u32 a2, .int .u64 a3, .int .u64 a4] w fun e w' => e = .returned (.bool true) ∧ Below w.heap.size w w' := by
  obtain ⟨hm, hl, hrow⟩ := row_open w0
  have hn1 := bounds_u32 w1
  have hn2 := bounds_u32 w2
  have hh1 := bounds_u64 w3
  have hh2 := bounds_u64 w4
  unfold maxLen at hm
  clear w0 w1 w2 w3 w4
  by_cases c1 : 1048576 < len0
  · clear hrow hl
    go_enter Try.func10, Try.ntmps10
    go_wp2_with (go_at_call 22; refine (Order.bytes_far _ _ _ _ _ _ _ _ (by omega) (by omega)).mono ?_; rintro e w' ⟨rfl, rfl⟩)
    go_ret
    exact ⟨rfl, Below.refl _ _⟩
  by_cases c2 : 65536 < len0
  · clear hrow hl
    go_enter Try.func10, Try.ntmps10
    go_wp2_with (go_at_call 22; refine (Order.bytes_ok _ _ _ _ _ _ _ _ (by omega)).mono ?_; rintro e w' ⟨rfl, rfl⟩)
    go_ret
    exact ⟨rfl, Below.refl _ _⟩
  by_cases c3 : ∃ m, len0 = 2 ^ m
  · obtain ⟨m, c3⟩ := c3
    have hp : 0 < len0 := by rw [c3]; exact Nat.two_pow_pos m
    obtain ⟨b, off, rfl, hb, hc⟩ := hrow hp
    have HM : Hid (len0 = 2 ^ m) := c3
    clear c3 hrow
    generalize z0.take len0 = zs at hl hc
    have HL : Hid (zs.length = len0) := hl
    have HC : Hid (∀ i, i < len0 → w.cell? ⟨b, off + i, none⟩ = some (.int .u32 (zs.getD i 0))) := hc
    clear hl hc
    by_cases c4 : Plain.zeros zs < 2
    · obtain ⟨Z, HZ⟩ : ∃ Z, Hid (Z = Plain.zeros zs) := ⟨_, rfl⟩
      have hz1 : Z < 2 := by rw [HZ.out]; omega
      clear c4
      go_enter Try.func10, Try.ntmps10
      go_wp2_with fail
      refine (Order.bytes_ok _ _ _ _ _ _ _ _ (by omega)).mono ?_
      rintro e w' ⟨rfl, rfl⟩
      go_wp2_with fail
      refine (Place.pow2_yes len0 m _ (by omega) HM.out).mono ?_
      rintro e w' ⟨rfl, rfl⟩
      go_wp2_with fail
      refine (Place.zerosN len0 b off cap0 zs _ HL.out (by omega) HC.out).mono ?_
      rintro e w' ⟨rfl, rfl⟩
      rw [← HZ.out]
      go_wp2_with fail
      go_ret
      exact ⟨rfl, Below.refl _ _⟩
    · by_cases c5 : a1 = 4294967295
      · subst c5
        obtain ⟨Z, HZ⟩ : ∃ Z, Hid (Z = Plain.zeros zs) := ⟨_, rfl⟩
        have hz1 : 2 ≤ Z := by rw [HZ.out]; omega
        clear c4
        go_enter Try.func10, Try.ntmps10
        go_wp2_with fail
        refine (Order.bytes_ok _ _ _ _ _ _ _ _ (by omega)).mono ?_
        rintro e w' ⟨rfl, rfl⟩
        go_wp2_with fail
        refine (Place.pow2_yes len0 m _ (by omega) HM.out).mono ?_
        rintro e w' ⟨rfl, rfl⟩
        go_wp2_with fail
        refine (Place.zerosN len0 b off cap0 zs _ HL.out (by omega) HC.out).mono ?_
        rintro e w' ⟨rfl, rfl⟩
        rw [← HZ.out]
        go_wp2_with fail
        go_ret
        exact ⟨rfl, Below.refl _ _⟩
      · by_cases c6 : a2 = 4294967295
        · subst c6
          have c5' : (a1 == 4294967295) = false := beq_eq_false_iff_ne.2 c5
          obtain ⟨Z, HZ⟩ : ∃ Z, Hid (Z = Plain.zeros zs) := ⟨_, rfl⟩
          have hz1 : 2 ≤ Z := by rw [HZ.out]; omega
          clear c4 c5
          go_enter Try.func10, Try.ntmps10
          go_wp2_with fail
          refine (Order.bytes_ok _ _ _ _ _ _ _ _ (by omega)).mono ?_
          rintro e w' ⟨rfl, rfl⟩
          go_wp2_with fail
          refine (Place.pow2_yes len0 m _ (by omega) HM.out).mono ?_
          rintro e w' ⟨rfl, rfl⟩
          go_wp2_with fail
          refine (Place.zerosN len0 b off cap0 zs _ HL.out (by omega) HC.out).mono ?_
          rintro e w' ⟨rfl, rfl⟩
          rw [← HZ.out]
          go_wp2_with fail
          go_ret
          exact ⟨rfl, Below.refl _ _⟩
        · exact Order.main b off cap0 m zs a1 a2 a3 a4 w len0 HL HM (by omega) (by omega) (by omega) (by omega) (by omega) (by omega) (by omega) (by omega) (by omega) (by omega) hb HC
  · clear hrow hl
    go_enter Try.func10, Try.ntmps10
    go_wp2_with fail
    refine (Order.bytes_ok _ _ _ _ _ _ _ _ (by omega)).mono ?_
    rintro e w' ⟨rfl, rfl⟩
    go_wp2_with fail
    refine (Place.pow2_no len0 _ (by omega) c3).mono ?_
    rintro e w' ⟨rfl, rfl⟩
    go_wp2_with fail
    go_ret
    exact ⟨rfl, Below.refl _ _⟩

/-! ### THE ROW's STEP: WRITTEN OUT: LEAVE IT -/
set_option maxRecDepth 100000 in
theorem lifted (os : Os) (started : os.Started) (H : Type) (enc : TypeId × Value → H) :
    ReturnsInHanded {} Try.checked os 10 .any (Rows.fnPlaceOccupancyOrderFreeSpec.pre6 enc Try.prog Try.f10 Rows.fnPlaceOccupancyOrderFreeRow.domain false) (Rows.fnPlaceOccupancyOrderFreeSpec.post enc Try.prog Try.f10 false true false false) := by
  refine returnsInHanded_of_change (C := Try.checked) own started (by kernel_rfl) Try.func10
    (ChangeSpec.witness6 (enc := enc) (C := Try.checked) false ⟨#[], #[.slice none 0 0, .int .u32 0, .int .u32 0, .int .u64 0, .int .u64 0], []⟩ 8 (by kernel_rfl) (by kernel_rfl) (by kernel_rfl) (by kernel_rfl)) ?_
  intro W base args ds gs before hval0 hW hcnd _
  have hval : ∀ (j : Nat) t v, Try.f10.params[j]? = some t → args[j]? = some v → Value.okWide Try.prog W .any base t v := hval0
  have hW' := hW
  obtain ⟨p, q, hA0, hV, rfl, hfz, hnd⟩ := hW
  have hA : DataW.TrodAll enc Try.prog W 0 (fun _ => true) true Try.f10.params.toList args.toList ds p := hA0
  rw [Try.params10] at hA hval
  obtain ⟨v0, vs0, d0, ds0, p0, q0, hargs, rfl, rfl, h0, r0⟩ := trodAll_cons hA
  obtain ⟨v1, vs1, d1, ds1, p1, q1, rfl, rfl, rfl, h1, r1⟩ := trodAll_cons r0
  obtain ⟨v2, vs2, d2, ds2, p2, q2, rfl, rfl, rfl, h2, r2⟩ := trodAll_cons r1
  obtain ⟨v3, vs3, d3, ds3, p3, q3, rfl, rfl, rfl, h3, r3⟩ := trodAll_cons r2
  obtain ⟨v4, vs4, d4, ds4, p4, q4, rfl, rfl, rfl, h4, r4⟩ := trodAll_cons r3
  obtain ⟨rfl, rfl, rfl⟩ := trodAll_nil r4
  obtain rfl : args = #[v0, v1, v2, v3, v4] := by cases args; simp_all
  obtain ⟨rfl, rfl⟩ := trodVars_none hV
  obtain ⟨a0, len0, cap0, rfl⟩ := okWide_slice Try.underlying31 (hval 0 31 v0 rfl rfl)
  have k0 := h0
  have lt0 : ∀ x ∈ p0, x.block < W.heap.size := by obtain ⟨m, hm⟩ := k0; exact DataW.trod_lt m _ _ _ hm
  obtain ⟨z0, w0⟩ : ∃ zs, IsRow .u32 W a0 len0 cap0 zs := by
    obtain ⟨fuel, hf⟩ := h0
    rcases open_ints Try.underlying31 Try.underlying32 (by kernel_rfl) hf with ⟨hcs, _⟩ | ⟨x, l, c, zs, hcs, _, hl, hm, hz, _, hcell, hwz⟩
    · simp [Value.cells] at hcs
      obtain ⟨rfl, rfl, rfl⟩ := hcs
      exact ⟨[], .inl ⟨rfl, rfl, rfl, rfl⟩⟩
    · simp [Value.cells] at hcs
      obtain ⟨rfl, rfl, rfl⟩ := hcs
      exact ⟨zs, .inr ⟨_, rfl, hl, hm, by simpa using hz, hcell, hwz⟩⟩
  obtain ⟨a1, rfl, rfl, rfl, w1⟩ := open_int Try.underlying32 (hval 1 32 v1 rfl rfl) h1
  obtain ⟨a2, rfl, rfl, rfl, w2⟩ := open_int Try.underlying32 (hval 2 32 v2 rfl rfl) h2
  obtain ⟨a3, rfl, rfl, rfl, w3⟩ := open_int Try.underlying33 (hval 3 33 v3 rfl rfl) h3
  obtain ⟨a4, rfl, rfl, rfl, w4⟩ := open_int Try.underlying33 (hval 4 33 v4 rfl rfl) h4
  clear hA0 hval0
  refine (walk a0 len0 cap0 z0 a1 a2 a3 a4 W w0 w1 w2 w3 w4).mono fun e W' ⟨he, bel⟩ => ?_
  subst he
  exact ⟨_, rfl, _, _, _, [], _, [], hW', trodAll_mk1 (shut_bool Try.underlying4 _), (trodAll_cons_mk (Below.trod laidOut (by kernel_rfl) (of_decide_eq_true (by kernel_rfl)) k0 bel lt0) (trodAll_cons_mk (shut_int Try.underlying32 w1) (trodAll_cons_mk (shut_int Try.underlying32 w2) (trodAll_cons_mk (shut_int Try.underlying33 w3) (trodAll_cons_mk (shut_int Try.underlying33 w4) trodAll_mk0))))), rfl, bel.frame _, fun h => by cases h⟩

theorem over : Rows.fnPlaceOccupancyOrderFreeRow.holds Try.pinned (OpenSpec.ofChange Rows.fnPlaceOccupancyOrderFreeSpec) :=
  OpenClaim.holds_of_wide 10 Try.f10 rfl rfl rfl rfl rfl rfl rfl ⟨rfl, rfl, rfl, rfl, rfl⟩ rfl rfl rfl rfl rfl (by kernel_rfl) Try.func10 (by kernel_rfl)
    (of_decide_eq_true (by kernel_rfl)) (by unfold Func.isWrapper; first | (rw [if_pos (by decide +kernel)]; kernel_rfl) | (rw [if_neg (by decide +kernel)]; exact ⟨rfl, rfl⟩))
    (fun os started H enc _ => lifted os started H enc)

/-- THE STATEMENT -/
theorem proved : Rows.FnPlaceOccupancyOrderFreeSaid := over
end Go.Proofs.Qxb6001005a.fnPlaceOccupancyOrderFree
