/-
  THE PROOF OF 'Rows.FnUnfencedSinceAppendTellsOnlyTheNewPlaceSaid': the frame after the given shells, turned to structs and slices of structs; the walk by Qxb6001298aAppend.
-/
import Derived.Test.Qxb6001298aRows
import Derived.WalkKit
import Derived.ProofKit
import Derived.OpenShut
import Derived.ShutString
import Derived.ChangeOld
import Derived.Below
import Derived.SliceStrings
import Derived.Test.Qxb6001298aOpen
import Derived.Test.Qxb6001298aAppend
namespace Go.Proofs.Qxb6001298a.fnUnfencedSinceAppendTellsOnlyTheNewPlace
open Go.ChangeShapes Go.WideShapes Go.ChangeAt Go.RowKit
open Go.ChangeMaps (open_string shut_string)
set_option linter.unusedVariables false

theorem own : ownKnob Try.prog.godebug = none := by kernel_rfl
theorem laidOut : laidOutB Try.prog = true := by kernel_rfl

theorem cells22 : Try.prog.cellsOf 9 = 1 := by kernel_rfl

/-- What the walk is told of a slice of strings that came in. -/
theorem row_open {H : Type} {enc : TypeId × Value → H} {w : World} {base : Nat} {spare : Nat → Bool} {held : Bool} {fuel : Nat} {ao : Option Addr} {len cap : Nat} {x : DataW H × List MemPlace}
    (h : DataW.trod enc Try.prog w base spare held fuel 22 [.slice ao len cap] = some x) : len ≤ maxLen ∧ ∃ ss b off, ss.length = len ∧ Strs.Row w ao b off len ss := by
  obtain ⟨hm, ss, b, off, hl, h1, h2, h3⟩ := OpenW.open_rows (α := ByteArray) (t := 22) (e := 9) (sz := 1) (f := fun s => [.string s]) (dflt := ByteArray.empty) Try.underlying22 cells22 (by omega) (fun _ => rfl)
    (fun fuel cs x h => by
      obtain ⟨s, rfl, _, _⟩ := DataW.trod_string Try.underlying9 h
      exact ⟨s, rfl⟩) h
  refine ⟨hm, ss, b, off, hl, h1, h2, fun i hi => ?_⟩
  have := h3 i hi 0 _ rfl
  simpa using this

theorem reps_open {H : Type} {enc : TypeId × Value → H} {w : World} {base : Nat} {spare : Nat → Bool} {held : Bool} {fuel : Nat} {ao : Option Addr} {len cap : Nat} {x : DataW H × List MemPlace}
    (h : DataW.trod enc Try.prog w base spare held fuel 38 [.slice ao len cap] = some x) : len ≤ maxLen ∧ ∃ ps b off, ps.length = len ∧ RepRow w ao b off len ps := by
  obtain ⟨hm, ps, b, off, hl, h1, h2, h3⟩ := OpenW.open_rows (t := 38) (e := 37) (sz := 6) (f := repC) (dflt := zeroRep) Try.underlying38 OpenW.cells37 (by omega) repC_len
    (fun fuel cs x h => OpenW.open_rep h) h
  exact ⟨hm, ps, b, off, hl, h1, h2, h3⟩

theorem recs_open {H : Type} {enc : TypeId × Value → H} {w : World} {base : Nat} {spare : Nat → Bool} {held : Bool} {fuel : Nat} {ao : Option Addr} {len cap : Nat} {x : DataW H × List MemPlace}
    (h : DataW.trod enc Try.prog w base spare held fuel 39 [.slice ao len cap] = some x) : len ≤ maxLen ∧ ∃ ps b off, ps.length = len ∧ RecRow w ao b off len ps := by
  obtain ⟨hm, ps, b, off, hl, h1, h2, h3⟩ := OpenW.open_rows (t := 39) (e := 35) (sz := 5) (f := recC) (dflt := zeroRec) Try.underlying39 OpenW.cells35 (by omega) recC_len
    (fun fuel cs x h => OpenW.open_rec h) h
  exact ⟨hm, ps, b, off, hl, h1, h2, h3⟩

set_option maxRecDepth 100000 in
theorem lifted (os : Os) (started : os.Started) (H : Type) (enc : TypeId × Value → H) :
    ReturnsInHanded {} Try.checked os 7 .any (Rows.fnUnfencedSinceAppendTellsOnlyTheNewPlaceSpec.pre6 enc Try.prog Try.f7 Rows.fnUnfencedSinceAppendTellsOnlyTheNewPlaceRow.domain false) (Rows.fnUnfencedSinceAppendTellsOnlyTheNewPlaceSpec.post enc Try.prog Try.f7 false true false false) := by
  refine returnsInHanded_of_change (C := Try.checked) own started (by kernel_rfl) Try.func7
    (ChangeSpec.witness6 (enc := enc) (C := Try.checked) false ⟨#[], #[.agg #[.string ⟨#[]⟩, .string ⟨#[]⟩, .int .u64 0, .int .u64 0, .int .u64 0, .bool false], .slice none 0 0, .agg #[.string ⟨#[]⟩, .string ⟨#[]⟩, .int .u64 0, .int .u64 0, .int .u64 0, .bool false], .slice none 0 0, .slice none 0 0], []⟩ 8 (by kernel_rfl) (by kernel_rfl) (by kernel_rfl) (by kernel_rfl)) ?_
  intro W base args ds gs before hval0 hW hcnd _
  have hval : ∀ (j : Nat) t v, Try.f7.params[j]? = some t → args[j]? = some v → Value.okWide Try.prog W .any base t v := hval0
  have hW' := hW
  obtain ⟨p, q, hA0, hV, rfl, hfz, hnd⟩ := hW
  have hA : DataW.TrodAll enc Try.prog W 0 (fun _ => true) true Try.f7.params.toList args.toList ds p := hA0
  rw [Try.params7] at hA hval
  obtain ⟨v0, vs0, d0, ds0, p0, q0, hargs, rfl, rfl, h0, r0⟩ := trodAll_cons hA
  obtain ⟨v1, vs1, d1, ds1, p1, q1, rfl, rfl, rfl, h1, r1⟩ := trodAll_cons r0
  obtain ⟨v2, vs2, d2, ds2, p2, q2, rfl, rfl, rfl, h2, r2⟩ := trodAll_cons r1
  obtain ⟨v3, vs3, d3, ds3, p3, q3, rfl, rfl, rfl, h3, r3⟩ := trodAll_cons r2
  obtain ⟨v4, vs4, d4, ds4, p4, q4, rfl, rfl, rfl, h4, r4⟩ := trodAll_cons r3
  obtain ⟨rfl, rfl, rfl⟩ := trodAll_nil r4
  obtain rfl : args = #[v0, v1, v2, v3, v4] := by cases args; simp_all
  obtain ⟨rfl, rfl⟩ := trodVars_none hV
  obtain ⟨c0, rfl, _⟩ := okWide_struct Try.underlying37 (hval 0 37 v0 rfl rfl)
  obtain ⟨a1, len1, cap1, rfl⟩ := okWide_slice Try.underlying38 (hval 1 38 v1 rfl rfl)
  obtain ⟨c2, rfl, _⟩ := okWide_struct Try.underlying37 (hval 2 37 v2 rfl rfl)
  obtain ⟨a3, len3, cap3, rfl⟩ := okWide_slice Try.underlying22 (hval 3 22 v3 rfl rfl)
  obtain ⟨a4, len4, cap4, rfl⟩ := okWide_slice Try.underlying39 (hval 4 39 v4 rfl rfl)
  have lt0 : ∀ x ∈ p0, x.block < W.heap.size := by obtain ⟨m, hm⟩ := h0; exact DataW.trod_lt m _ _ _ hm
  have lt1 : ∀ x ∈ p1, x.block < W.heap.size := by obtain ⟨m, hm⟩ := h1; exact DataW.trod_lt m _ _ _ hm
  have lt2 : ∀ x ∈ p2, x.block < W.heap.size := by obtain ⟨m, hm⟩ := h2; exact DataW.trod_lt m _ _ _ hm
  have lt3 : ∀ x ∈ p3, x.block < W.heap.size := by obtain ⟨m, hm⟩ := h3; exact DataW.trod_lt m _ _ _ hm
  have lt4 : ∀ x ∈ p4, x.block < W.heap.size := by obtain ⟨m, hm⟩ := h4; exact DataW.trod_lt m _ _ _ hm
  obtain ⟨P0, e0⟩ : ∃ P : Rep, c0 = (repC P).toArray := by
    obtain ⟨fuel, hf⟩ := h0
    obtain ⟨P, hP⟩ := OpenW.open_rep hf
    exact ⟨P, by rw [← hP]; rfl⟩
  obtain ⟨P2, e2⟩ : ∃ P : Rep, c2 = (repC P).toArray := by
    obtain ⟨fuel, hf⟩ := h2
    obtain ⟨P, hP⟩ := OpenW.open_rep hf
    exact ⟨P, by rw [← hP]; rfl⟩
  obtain ⟨m1, ps, b1, o1, l1, w1⟩ : len1 ≤ maxLen ∧ ∃ ps b off, ps.length = len1 ∧ RepRow W a1 b off len1 ps := by
    obtain ⟨fuel, hf⟩ := h1
    exact reps_open hf
  obtain ⟨m3, ss, b3, o3, l3, w3⟩ : len3 ≤ maxLen ∧ ∃ ps b off, ps.length = len3 ∧ Strs.Row W a3 b off len3 ps := by
    obtain ⟨fuel, hf⟩ := h3
    exact row_open hf
  obtain ⟨m4, rs, b4, o4, l4, w4⟩ : len4 ≤ maxLen ∧ ∃ ps b off, ps.length = len4 ∧ RecRow W a4 b off len4 ps := by
    obtain ⟨fuel, hf⟩ := h4
    exact recs_open hf
  clear hA0 hval0
  unfold maxLen at m1 m3 m4
  have hwalk := Append.walk P0 P2 a1 a3 a4 b1 o1 len1 cap1 b3 o3 len3 cap3 b4 o4 len4 cap4 ps ss rs W w1 w3 w4 (by omega) (by omega) (by omega) l1 l3
  rw [← e0, ← e2] at hwalk
  refine hwalk.mono fun e W' ⟨he, bel⟩ => ?_
  subst he
  exact ⟨_, rfl, _, _, _, [], _, [], hW', trodAll_mk1 (shut_bool Try.underlying4 _), (trodAll_cons_mk (Below.trod laidOut (by kernel_rfl) (of_decide_eq_true (by kernel_rfl)) h0 bel lt0) (trodAll_cons_mk (Below.trod laidOut (by kernel_rfl) (of_decide_eq_true (by kernel_rfl)) h1 bel lt1) (trodAll_cons_mk (Below.trod laidOut (by kernel_rfl) (of_decide_eq_true (by kernel_rfl)) h2 bel lt2) (trodAll_cons_mk (Below.trod laidOut (by kernel_rfl) (of_decide_eq_true (by kernel_rfl)) h3 bel lt3) (trodAll_cons_mk (Below.trod laidOut (by kernel_rfl) (of_decide_eq_true (by kernel_rfl)) h4 bel lt4) trodAll_mk0))))), rfl, bel.frame _, fun h => by cases h⟩

theorem over : Rows.fnUnfencedSinceAppendTellsOnlyTheNewPlaceRow.holds Try.pinned (OpenSpec.ofChange Rows.fnUnfencedSinceAppendTellsOnlyTheNewPlaceSpec) :=
  OpenClaim.holds_of_wide 7 Try.f7 rfl rfl rfl rfl rfl rfl rfl ⟨rfl, rfl, rfl, rfl, rfl⟩ rfl rfl rfl rfl rfl (by kernel_rfl) Try.func7 (by kernel_rfl)
    (of_decide_eq_true (by kernel_rfl)) (by unfold Func.isWrapper; first | (rw [if_pos (by decide +kernel)]; kernel_rfl) | (rw [if_neg (by decide +kernel)]; exact ⟨rfl, rfl⟩))
    (fun os started H enc _ => lifted os started H enc)

/-- THE STATEMENT -/
theorem proved : Rows.FnUnfencedSinceAppendTellsOnlyTheNewPlaceSaid := over
end Go.Proofs.Qxb6001298a.fnUnfencedSinceAppendTellsOnlyTheNewPlace
