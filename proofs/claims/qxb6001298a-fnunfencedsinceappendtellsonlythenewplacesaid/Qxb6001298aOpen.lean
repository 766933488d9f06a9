/-
  THE ARGUMENTS OPENED: a report, a slice of reports, a slice of records.
-/
import Derived.Test.Qxb6001298aBytes
import Derived.OpenShut
import Derived.ShutString
import Derived.ChangeOld
import Derived.SliceStrings
namespace Go.Proofs.Qxb6001298a.OpenW
open Go.ChangeShapes Go.WideShapes Go.ChangeAt Go.RowKit
set_option linter.unusedVariables false

section
variable {H : Type} {enc : TypeId × Value → H} {w : World} {base : Nat} {spare : Nat → Bool} {held : Bool}

theorem cells9 : Try.prog.cellsOf 9 = 1 := by kernel_rfl
theorem cells23 : Try.prog.cellsOf 23 = 1 := by kernel_rfl
theorem cells4 : Try.prog.cellsOf 4 = 1 := by kernel_rfl
theorem cells35 : Try.prog.cellsOf 35 = 5 := by kernel_rfl
theorem cells37 : Try.prog.cellsOf 37 = 6 := by kernel_rfl

theorem open_rec {fuel : Nat} {cs : List Value} {x : DataW H × List MemPlace} (h : DataW.trod enc Try.prog w base spare held fuel 35 cs = some x) : ∃ R : Rec, cs = recC R := by
  obtain ⟨xs, n, _, rfl, hl, hlen, hf⟩ := DataW.trod_struct Try.underlying35 h
  rw [cells35] at hl
  match cs, hl with
  | [c0, c1, c2, c3, c4], _ =>
    match xs, hlen with
    | [y0, y1, y2, y3, y4], _ =>
      have h0 : DataW.trod enc Try.prog w base spare held n 9 (([c0, c1, c2, c3, c4].drop 0).take (Try.prog.cellsOf 9)) = some y0 := hf 0 _ rfl
      have h1 : DataW.trod enc Try.prog w base spare held n 23 (([c0, c1, c2, c3, c4].drop 1).take (Try.prog.cellsOf 23)) = some y1 := hf 1 _ rfl
      have h2 : DataW.trod enc Try.prog w base spare held n 23 (([c0, c1, c2, c3, c4].drop 2).take (Try.prog.cellsOf 23)) = some y2 := hf 2 _ rfl
      have h3 : DataW.trod enc Try.prog w base spare held n 23 (([c0, c1, c2, c3, c4].drop 3).take (Try.prog.cellsOf 23)) = some y3 := hf 3 _ rfl
      have h4 : DataW.trod enc Try.prog w base spare held n 4 (([c0, c1, c2, c3, c4].drop 4).take (Try.prog.cellsOf 4)) = some y4 := hf 4 _ rfl
      rw [cells9] at h0
      rw [cells23] at h1 h2 h3
      rw [cells4] at h4
      obtain ⟨s, e0, _, _⟩ := DataW.trod_string Try.underlying9 h0
      obtain ⟨a, e1, _, _⟩ := DataW.trod_int Try.underlying23 h1
      obtain ⟨b, e2, _, _⟩ := DataW.trod_int Try.underlying23 h2
      obtain ⟨c, e3, _, _⟩ := DataW.trod_int Try.underlying23 h3
      obtain ⟨d, e4, _⟩ := DataW.trod_bool Try.underlying4 h4
      simp at e0 e1 e2 e3 e4
      exact ⟨(s, a, b, c, d), by simp [recC, e0, e1, e2, e3, e4]⟩

theorem open_rep {fuel : Nat} {cs : List Value} {x : DataW H × List MemPlace} (h : DataW.trod enc Try.prog w base spare held fuel 37 cs = some x) : ∃ p : Rep, cs = repC p := by
  obtain ⟨xs, n, _, rfl, hl, hlen, hf⟩ := DataW.trod_struct Try.underlying37 h
  rw [cells37] at hl
  match cs, hl with
  | [c0, c1, c2, c3, c4, c5], _ =>
    match xs, hlen with
    | [y0, y1], _ =>
      have h0 : DataW.trod enc Try.prog w base spare held n 9 (([c0, c1, c2, c3, c4, c5].drop 0).take (Try.prog.cellsOf 9)) = some y0 := hf 0 _ rfl
      have h1 : DataW.trod enc Try.prog w base spare held n 35 (([c0, c1, c2, c3, c4, c5].drop 1).take (Try.prog.cellsOf 35)) = some y1 := hf 1 _ rfl
      rw [cells9] at h0
      rw [cells35] at h1
      obtain ⟨s, e0, _, _⟩ := DataW.trod_string Try.underlying9 h0
      obtain ⟨R, e1⟩ := open_rec h1
      simp at e0
      have e1' : [c1, c2, c3, c4, c5] = recC R := e1
      exact ⟨(s, R), by rw [repC, ← e1', e0]⟩

theorem choose_list {α : Type} {P : Nat → α → Prop} {dflt : α} : ∀ (n : Nat), (∀ i, i < n → ∃ p, P i p) → ∃ ps : List α, ps.length = n ∧ ∀ i, i < n → P i (ps.getD i dflt)
  | 0, _ => ⟨[], rfl, fun i hi => absurd hi (by omega)⟩
  | n + 1, h => by
    obtain ⟨ps, hl, hp⟩ := choose_list (P := P) (dflt := dflt) n fun i hi => h i (by omega)
    obtain ⟨p, hq⟩ := h n (by omega)
    refine ⟨ps ++ [p], by simp [hl], fun i hi => ?_⟩
    by_cases e : i = n
    · subst e
      simpa [List.getD, ← hl] using hq
    · have := hp i (by omega)
      simpa [List.getD, List.getElem?_append_left (show i < ps.length by omega)] using this

/-- A slice of elements of sz cells each: the elements as they lie. -/
theorem open_rows {α : Type} {t e : TypeId} {sz : Nat} {f : α → List Value} {dflt : α} {fuel : Nat} {ao : Option Addr} {len cap : Nat} {x : DataW H × List MemPlace} (ht : Try.prog.underlying t = some (.slice e)) (hc : Try.prog.cellsOf e = sz) (h0 : 0 < sz) (hf : ∀ p, (f p).length = sz)
    (ho : ∀ (fuel : Nat) (cs : List Value) (x : DataW H × List MemPlace), DataW.trod enc Try.prog w base spare held fuel e cs = some x → ∃ p, cs = f p)
    (h : DataW.trod enc Try.prog w base spare held fuel t [.slice ao len cap] = some x) :
    len ≤ maxLen ∧ ∃ (ps : List α) (b off : Nat), ps.length = len ∧ (0 < len → ao = some ⟨b, off, none⟩) ∧ (0 < len → b < w.heap.size) ∧ ∀ i, i < len → w.rangeAt b (off + i * sz) (f (ps.getD i dflt)) := by
  rcases DataW.trod_slice ht h with ⟨h', _⟩ | ⟨a, len', cap', elems, rest, n, _, h', rfl, hb, hl, hm, hlen, hel, hsp, hns⟩
  · simp at h'
    obtain ⟨rfl, rfl, rfl⟩ := h'
    exact ⟨by simp, [], 0, 0, rfl, by omega, by omega, fun i hi => absurd hi (by omega)⟩
  · simp at h'
    obtain ⟨rfl, rfl, rfl⟩ := h'
    have each : ∀ i, i < len → ∃ p, w.cells? base (a.add (i * sz)) sz = some (f p) := by
      intro i hi
      have hi' := hel i hi
      rw [hc, List.getElem?_eq_getElem (by omega), Option.bind_eq_some_iff] at hi'
      obtain ⟨cs', hcs, hy⟩ := hi'
      obtain ⟨p, rfl⟩ := ho _ _ _ hy
      exact ⟨p, hcs⟩
    obtain ⟨ps, hps, hp⟩ := choose_list len each (dflt := dflt)
    have cell : ∀ i, i < len → ∀ j v, (f (ps.getD i dflt))[j]? = some v → w.cell? ((a.add (i * sz)).add j) = some v := by
      intro i hi j v hv
      have hj := (List.getElem?_eq_some_iff.1 hv).1
      rw [hf] at hj
      rw [(World.cells?_some (hp i hi)).2.2 j hj]
      exact hv
    refine ⟨by omega, ps, a.block, a.off, hps, ?_⟩
    by_cases hpos : 0 < len
    · obtain ⟨b, off, spot⟩ := a
      have hx : 0 < (f (ps.getD 0 dflt)).length := by rw [hf]; exact h0
      have c0 := cell 0 hpos 0 _ (List.getElem?_eq_getElem hx)
      have hspot : spot = none := by simpa [Addr.add] using World.cell?_spot c0
      subst hspot
      simp only [Addr.add_mid] at cell c0
      exact ⟨fun _ => rfl, fun _ => World.block_lt_of_cell? w ⟨b, off + 0 * sz + 0, none⟩ c0, fun i hi j v hv => cell i hi j v hv⟩
    · exact ⟨fun h => absurd h hpos, fun h => absurd h hpos, fun i hi => absurd hi (by omega)⟩
end
end Go.Proofs.Qxb6001298a.OpenW
