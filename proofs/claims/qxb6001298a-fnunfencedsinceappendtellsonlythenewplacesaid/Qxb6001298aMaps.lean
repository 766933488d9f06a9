/-
  MAPS: make, look-up, update and len of a map that the call itself made; the entries are whatever values.
-/
import Derived.Test.Qxb6001298aRec
import Derived.MapKept
namespace Go.Proofs.Qxb6001298a
open Go.RowKit
set_option linter.unusedVariables false
set_option linter.unusedSectionVars false

/-- What an update leaves. -/
def updL {K : Type} [DecidableEq K] : List (K × Value) → K → Value → List (K × Value)
  | [], k, v => [(k, v)]
  | p :: l, k, v => if p.1 = k then (k, v) :: l else p :: updL l k v

/-- The world with another map at r. -/
def putMap (w : World) (r : Nat) (o : Obj) : World := { w with heap := w.heap.setIfInBounds r o }

namespace MapW
theorem putMap_same (w : World) (r : Nat) (o : Obj) (h : r < w.heap.size) : (putMap w r o).heap[r]? = some o := by
  simp [putMap, h]
theorem putMap_other (w : World) (r j : Nat) (o : Obj) (h : j ≠ r) : (putMap w r o).heap[j]? = w.heap[j]? := by
  simp [putMap, Array.getElem?_setIfInBounds_ne (Ne.symm h)]
theorem putMap_size (w : World) (r : Nat) (o : Obj) : (putMap w r o).heap.size = w.heap.size := by simp [putMap]

theorem putMap_grown (w : World) (r : Nat) (o : Obj) : w.grownBy (putMap w r o) (some r) :=
  ⟨rfl, rfl, rfl, by rw [putMap_size]; exact Nat.le_refl _, fun k hk hne => putMap_other w r k o (fun e => hne (by rw [e]))⟩

section
variable {K : Type} [DecidableEq K] {kv : K → Value} {d : TypeDesc}

theorem upd_push : ∀ (l : List (K × Value)) (k : K) (v : Value), lookL l k = none → updL l k v = l ++ [(k, v)]
  | [], k, v, _ => rfl
  | p :: l, k, v, h => by
    have hne : ¬ p.1 = k := by
      intro e1
      simp [lookL, e1] at h
    have h' : lookL l k = none := by simpa [lookL, hne] using h
    simp [updL, hne, upd_push l k v h']

theorem find_at (hs : ∀ a b, Instr.sameNow d (kv a) (kv b) = some (decide (a = b))) (k : K) (v u : Value) : ∀ (es : List MapEntry) (l : List (K × Value)) (n : Nat), es.map (fun e => (e.key, e.val)) = l.map (fun p => (kv p.1, p.2)) → lookL l k = some v →
    ∃ i, Instr.findNow d (kv k) es n = some (some (n + i, v)) ∧ (∃ e, es[i]? = some e ∧ e.key = kv k) ∧ (es.modify i (fun e => { e with key := kv k, val := u })).map (fun e => (e.key, e.val)) = (updL l k u).map (fun p => (kv p.1, p.2))
  | [], [], n, h, hl => by simp [lookL] at hl
  | [], p :: l, n, h, hl => by simp at h
  | e :: es, [], n, h, _ => by simp at h
  | e :: es, p :: l, n, h, hl => by
    simp only [List.map_cons, List.cons.injEq, Prod.mk.injEq] at h
    obtain ⟨⟨h1, h2⟩, h3⟩ := h
    unfold Instr.findNow
    rw [h1, hs]
    by_cases e1 : p.1 = k
    · have : (decide (k = p.1)) = true := by simp [e1]
      rw [this]
      have hv : p.2 = v := by simpa [lookL, e1] using hl
      refine ⟨0, by simp [h2, hv], ⟨e, by simp, by rw [h1, e1]⟩, ?_⟩
      simp [updL, e1, h3]
    · have : (decide (k = p.1)) = false := by simp; exact fun e => e1 e.symm
      rw [this]
      have hl' : lookL l k = some v := by simpa [lookL, e1] using hl
      obtain ⟨i, q1, ⟨e', q2, q3⟩, q4⟩ := find_at hs k v u es l (n + 1) h3 hl'
      refine ⟨i + 1, by simp [q1]; omega, ⟨e', by simpa using q2, q3⟩, ?_⟩
      simp [updL, e1, h1, h2, q4]

/-- The look-up's run. -/
theorem run_look {P : Program} (w : World) (t kt et : TypeId) (r : Nat) (l : List (K × Value)) (k : K) (z : Value) (c : Bool) (ht : P.underlying t = some (.map kt et)) (hk : P.underlying kt = some d)
    (hck : ∀ b w, (Instr.checkKey b 10000 kt (kv k)).run P w = .ok () w) (hz : ∀ w, (zeroValue et).run P w = .ok z w)
    (hs : ∀ a b, Instr.sameNow d (kv a) (kv b) = some (decide (a = b))) (hm : MapOf kv w r l) :
    (Instr.lookup t (.map (some r)) (kv k) c).run P w = .ok (if c then .tuple #[(lookL l k).getD z, .bool (lookL l k).isSome] else (lookL l k).getD z) w := by
  obtain ⟨es, clock, hb, he⟩ := hm
  cases hl : lookL l k with
  | none =>
    have hf := find_none hs k es.toList l 0 he hl
    simp [Instr.lookup, run_underlying ht, MapKept.run_getObj_map hb, hck, Instr.findKey, run_underlying hk, hf, hz]
  | some v =>
    obtain ⟨i, hf⟩ := find_some hs k v es.toList l 0 he hl
    simp [Instr.lookup, run_underlying ht, MapKept.run_getObj_map hb, hck, Instr.findKey, run_underlying hk, hf]

/-- .. in a nil map. -/
theorem run_look_nil {P : Program} (w : World) (t kt et : TypeId) (k : K) (z : Value) (c : Bool) (ht : P.underlying t = some (.map kt et)) (hk : P.underlying kt = some d)
    (hck : ∀ b w, (Instr.checkKey b 10000 kt (kv k)).run P w = .ok () w) (hz : ∀ w, (zeroValue et).run P w = .ok z w) :
    (Instr.lookup t (.map none) (kv k) c).run P w = .ok (if c then .tuple #[z, .bool false] else z) w := by
  simp [Instr.lookup, run_underlying ht, hck, Instr.findKey, run_underlying hk, Instr.findNow, hz]

/-- The update's run. -/
theorem run_upd {P : Program} (w : World) (t kt et : TypeId) (r : Nat) (l : List (K × Value)) (k : K) (u : Value) (ht : P.underlying t = some (.map kt et)) (hk : P.underlying kt = some d)
    (hck : ∀ b w, (Instr.checkKey b 10000 kt (kv k)).run P w = .ok () w) (hsb : Instr.sameBits 10000 (kv k) (kv k) = true)
    (hs : ∀ a b, Instr.sameNow d (kv a) (kv b) = some (decide (a = b))) (hm : MapOf kv w r l) :
    ∃ o, (Instr.mapUpdate t (.map (some r)) (kv k) u).run P w = .ok () (putMap w r o) ∧ MapOf kv (putMap w r o) r (updL l k u) := by
  obtain ⟨es, clock, hb, he⟩ := hm
  have hr : r < w.heap.size := (Array.getElem?_eq_some_iff.1 hb).1
  cases hl : lookL l k with
  | none =>
    have hf := find_none hs k es.toList l 0 he hl
    refine ⟨.map (es.push { key := kv k, val := u, born := clock }) (clock + 1), ?_, ⟨_, _, putMap_same w r _ hr, ?_⟩⟩
    · simp [Instr.mapUpdate, run_underlying ht, MapKept.run_getObj_map hb, hck, Instr.findKey, run_underlying hk, hf, MapKept.run_setObj_map _ hb, putMap]
    · rw [upd_push l k u hl]
      simp [he]
  | some v =>
    obtain ⟨i, hf, ⟨e, hi, hke⟩, hmod⟩ := find_at hs k v u es.toList l 0 he hl
    rw [Nat.zero_add] at hf
    have hi' : es[i]? = some e := by simpa using hi
    refine ⟨.map (es.modify i fun e => { e with key := kv k, val := u }) clock, ?_, ⟨_, _, putMap_same w r _ hr, ?_⟩⟩
    · simp [Instr.mapUpdate, run_underlying ht, MapKept.run_getObj_map hb, hck, Instr.findKey, run_underlying hk, hf, hi', Instr.keyThatStays, hke, hsb, MapKept.run_setObj_map _ hb, putMap]
    · rw [Array.toList_modify]
      exact hmod
end

/-! ### at this program: map[string]Record (62), map[uint64]Record (69) -/
/-- A uint64 as a key. -/
def kvU (n : Int) : Value := .int .u64 n

theorem same_str (a b : ByteArray) : Instr.sameNow .string (.string a) (.string b) = some (decide (a = b)) := by
  simp only [Instr.sameNow]
  congr 1
  by_cases h : a = b
  · subst h
    simp [beq_toListBytes]
  · rw [beq_toListBytes, RecW.toList_ne h]
    simp [h]

theorem same_u64 (a b : Int) : Instr.sameNow (.int .u64) (kvU a) (kvU b) = some (decide (a = b)) := by
  simp [Instr.sameNow, kvU]
  by_cases h : a = b <;> simp [h]

theorem ck9' (n : Nat) (k : ByteArray) (b : Bool) (w : World) : (Instr.checkKey b (n + 1) 9 (.string k)).run Try.prog w = .ok () w := by
  simp [Instr.checkKey, run_underlying Try.underlying9]
theorem ck23' (n : Nat) (k : Int) (b : Bool) (w : World) : (Instr.checkKey b (n + 1) 23 (kvU k)).run Try.prog w = .ok () w := by
  simp [Instr.checkKey, run_underlying Try.underlying23]
theorem ck9 (k : ByteArray) (b : Bool) (w : World) : (Instr.checkKey b 10000 9 (.string k)).run Try.prog w = .ok () w := ck9' 9999 k b w
theorem ck23 (k : Int) (b : Bool) (w : World) : (Instr.checkKey b 10000 23 (kvU k)).run Try.prog w = .ok () w := ck23' 9999 k b w

theorem look62 (w : World) (r : Nat) (l : List (ByteArray × Value)) (k : ByteArray) (hm : MapOf Value.string w r l) :
    (Instr.lookup 62 (.map (some r)) (.string k) false).run Try.prog w = .ok ((lookL l k).getD (recV zeroRec)) w := by
  have := run_look w 62 9 52 r l k (recV zeroRec) false Try.underlying62 Try.underlying9 (ck9 k) RecW.zero52 same_str hm
  exact this
theorem look62_nil (w : World) (k : ByteArray) : (Instr.lookup 62 (.map none) (.string k) false).run Try.prog w = .ok (recV zeroRec) w := by
  have := run_look_nil (kv := Value.string) w 62 9 52 k (recV zeroRec) false Try.underlying62 Try.underlying9 (ck9 k) RecW.zero52
  exact this
theorem look69 (w : World) (r : Nat) (l : List (Int × Value)) (k : Int) (hm : MapOf kvU w r l) :
    (Instr.lookup 69 (.map (some r)) (.int .u64 k) true).run Try.prog w = .ok (.tuple #[(lookL l k).getD (recV zeroRec), .bool (lookL l k).isSome]) w := by
  have := run_look w 69 23 52 r l k (recV zeroRec) true Try.underlying69 Try.underlying23 (ck23 k) RecW.zero52 same_u64 hm
  exact this
theorem look69_nil (w : World) (k : Int) : (Instr.lookup 69 (.map none) (.int .u64 k) true).run Try.prog w = .ok (.tuple #[recV zeroRec, .bool false]) w := by
  have := run_look_nil (kv := kvU) w 69 23 52 k (recV zeroRec) true Try.underlying69 Try.underlying23 (ck23 k) RecW.zero52
  exact this
theorem upd62 (w : World) (r : Nat) (l : List (ByteArray × Value)) (k : ByteArray) (u : Value) (hm : MapOf Value.string w r l) :
    ∃ o, (Instr.mapUpdate 62 (.map (some r)) (.string k) u).run Try.prog w = .ok () (putMap w r o) ∧ MapOf Value.string (putMap w r o) r (updL l k u) :=
  run_upd w 62 9 52 r l k u Try.underlying62 Try.underlying9 (ck9 k) (by simp [Instr.sameBits, beq_toListBytes]) same_str hm
theorem upd69 (w : World) (r : Nat) (l : List (Int × Value)) (k : Int) (u : Value) (hm : MapOf kvU w r l) :
    ∃ o, (Instr.mapUpdate 69 (.map (some r)) (.int .u64 k) u).run Try.prog w = .ok () (putMap w r o) ∧ MapOf kvU (putMap w r o) r (updL l k u) :=
  run_upd w 69 23 52 r l k u Try.underlying69 Try.underlying23 (ck23 k) (by simp [Instr.sameBits]) same_u64 hm

theorem MapOf_new {K : Type} (kv : K → Value) (w : World) : MapOf kv (w.alloc (.map #[] 0)) w.heap.size [] := ⟨#[], 0, heap_alloc_new w _, rfl⟩
theorem MapOf_kept {K : Type} {kv : K → Value} {w w' : World} {r : Nat} {l : List (K × Value)} (h : MapOf kv w r l) (hb : w'.heap[r]? = w.heap[r]?) : MapOf kv w' r l := by
  obtain ⟨es, c, h1, h2⟩ := h
  exact ⟨es, c, hb.trans h1, h2⟩
theorem MapOf_lt {K : Type} {kv : K → Value} {w : World} {r : Nat} {l : List (K × Value)} (h : MapOf kv w r l) : r < w.heap.size := by
  obtain ⟨es, c, h1, h2⟩ := h
  exact (Array.getElem?_eq_some_iff.1 h1).1
theorem MapOf_below {K : Type} {kv : K → Value} {w w' : World} {r B : Nat} {l : List (K × Value)} (h : MapOf kv w r l) (hb : Below B w w') (hr : r < B) : MapOf kv w' r l := MapOf_kept h (hb.block r hr)
end MapW
end Go.Proofs.Qxb6001298a
