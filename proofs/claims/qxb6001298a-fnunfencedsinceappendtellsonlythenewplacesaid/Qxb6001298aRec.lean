/-
  RECORDS: the walks of zzRec, zzRecEq, zzRepBytes; '==' between two records.
-/
import Derived.Test.Qxb6001298aStrs
import Derived.Outline
import Derived.WalkLawsBesides
import Derived.Laws.StructEq
namespace Go.Proofs.Qxb6001298a
open Go.RowKit
set_option linter.unusedVariables false

/-- A record: state, epoch, incarnation, unfenced, untouched. -/
abbrev Rec := ByteArray × Int × Int × Int × Bool
/-- A report: its sender, its record. -/
abbrev Rep := ByteArray × Rec

def recC (R : Rec) : List Value := [.string R.1, .int .u64 R.2.1, .int .u64 R.2.2.1, .int .u64 R.2.2.2.1, .bool R.2.2.2.2]
def repC (p : Rep) : List Value := .string p.1 :: recC p.2
def recV (R : Rec) : Value := .agg (recC R).toArray
/-- Are they the same? -/
def req (a b : Rec) : Bool := decide (a = b)
theorem req_self (a : Rec) : req a a = true := by simp [req]
theorem req_ne {a b : Rec} (h : a ≠ b) : req a b = false := by simp [req, h]
def zeroRec : Rec := (⟨#[]⟩, 0, 0, 0, false)

theorem recC_len (R : Rec) : (recC R).length = 5 := rfl
theorem repC_len (p : Rep) : (repC p).length = 6 := rfl

namespace RecW

set_option maxHeartbeats 400000 in
theorem rec24 (s : ByteArray) (e i u : Int) (t : Bool) (w : World) :
    Calls Try.prog 24 #[.agg #[.string s, .int .u64 e, .int .u64 i, .int .u64 u, .bool t]] w fun o w' => o = .returned (.agg #[.string s, .int .u64 e, .int .u64 i, .int .u64 u, .bool t]) ∧ Below w.heap.size w w' := by
  go_enter Try.func24, Try.ntmps24
  go_wp2_with fail
  exact bodyPost_ret (v := .agg #[.string s, .int .u64 e, .int .u64 i, .int .u64 u, .bool t]) (by simp [results, Try.results24, go_sem]) rfl ⟨rfl, ((Below.refl _ _).alloc (Nat.le_refl _) _).alloc (by simp) _⟩

set_option maxHeartbeats 400000 in
theorem bytes22 (f s : ByteArray) (e i u : Int) (t : Bool) (w : World) :
    Calls Try.prog 22 #[.agg #[.string f, .string s, .int .u64 e, .int .u64 i, .int .u64 u, .bool t]] w fun o w' => Strs.SomeInt o ∧ Below w.heap.size w w' := by
  go_enter Try.func22, Try.ntmps22
  go_wp2_with fail
  go_ret
  exact ⟨⟨_, rfl⟩, (Below.refl _ _).alloc (Nat.le_refl _) _⟩

theorem toList_ne {s s' : ByteArray} (h : s ≠ s') : (s.toList == s'.toList) = false := by
  rw [beq_eq_false_iff_ne]
  intro e
  apply h
  rw [ByteArray.toList_eq, ByteArray.toList_eq] at e
  exact ByteArray.ext (Array.toList_inj.1 e)

/-- zzRecEq says whether the two records are the same. -/
theorem eq23 (a b : Rec) (w : World) :
    Calls Try.prog 23 #[recV a, recV b] w fun o w' => o = .returned (.bool (req a b)) ∧ Below w.heap.size w w' := by
  obtain ⟨s, e, i, u, t⟩ := a
  obtain ⟨s', e', i', u', t'⟩ := b
  show Calls Try.prog 23 #[.agg #[.string s, .int .u64 e, .int .u64 i, .int .u64 u, .bool t], .agg #[.string s', .int .u64 e', .int .u64 i', .int .u64 u', .bool t']] w _
  by_cases hs : s = s'
  · subst hs
    by_cases he : e = e'
    · subst he
      by_cases hi : i = i'
      · subst hi
        by_cases hu : u = u'
        · subst hu
          by_cases ht : t = t'
          · subst ht
            have H : Hid (req (s, e, i, u, t) (s, e, i, u, t) = true) := req_self _
            go_enter Try.func23, Try.ntmps23
            go_wp2_with fail
            go_ret
            exact ⟨by rw [H.out]; rfl, ((Below.refl _ _).alloc (Nat.le_refl _) _).alloc (by simp) _⟩
          · have H : Hid (req (s, e, i, u, t) (s, e, i, u, t') = false) := req_ne (by simp [ht])
            have hb : (t == t') = false := by simpa using ht
            go_enter Try.func23, Try.ntmps23
            go_wp2_with fail
            go_ret
            exact ⟨by rw [H.out]; rfl, ((Below.refl _ _).alloc (Nat.le_refl _) _).alloc (by simp) _⟩
        · have H : Hid (req (s, e, i, u, t) (s, e, i, u', t') = false) := req_ne (by simp [hu])
          have hb : (u == u') = false := by simpa using hu
          go_enter Try.func23, Try.ntmps23
          go_wp2_with fail
          go_ret
          exact ⟨by rw [H.out]; rfl, ((Below.refl _ _).alloc (Nat.le_refl _) _).alloc (by simp) _⟩
      · have H : Hid (req (s, e, i, u, t) (s, e, i', u', t') = false) := req_ne (by simp [hi])
        have hb : (i == i') = false := by simpa using hi
        go_enter Try.func23, Try.ntmps23
        go_wp2_with fail
        go_ret
        exact ⟨by rw [H.out]; rfl, ((Below.refl _ _).alloc (Nat.le_refl _) _).alloc (by simp) _⟩
    · have H : Hid (req (s, e, i, u, t) (s, e', i', u', t') = false) := req_ne (by simp [he])
      have hb : (e == e') = false := by simpa using he
      go_enter Try.func23, Try.ntmps23
      go_wp2_with fail
      go_ret
      exact ⟨by rw [H.out]; rfl, ((Below.refl _ _).alloc (Nat.le_refl _) _).alloc (by simp) _⟩
  · have H : Hid (req (s, e, i, u, t) (s', e', i', u', t') = false) := req_ne (by simp [hs])
    have hb := toList_ne hs
    go_enter Try.func23, Try.ntmps23
    go_wp2_with fail
    go_ret
    exact ⟨by rw [H.out]; rfl, ((Below.refl _ _).alloc (Nat.le_refl _) _).alloc (by simp) _⟩

theorem fields52 : (Try.prog.fieldsOf 52).toList.map (fun f => (f.type, f.offset, f.name == "_")) = [(50, 0, false), (23, 1, false), (23, 2, false), (23, 3, false), (4, 4, false)] := by kernel_rfl
theorem und52 : Try.prog.underlying 52 = some (.struct (Try.prog.fieldsOf 52)) := by kernel_rfl
theorem stood52 : Try.prog.stoodInHeld 52 = false := by kernel_rfl

/-- '!=' between two records. -/
theorem neq52 (a b : Rec) (w : World) : (binOp .neq 52 (recV a) (recV b)).run Try.prog w = .ok (.bool (!req a b)) w := by
  obtain ⟨s, e, i, u, t⟩ := a
  obtain ⟨s', e', i', u', t'⟩ := b
  unfold recV
  rw [run_neq_struct, run_equalIn_agg w 9999 52 _ _ und52 stood52]
  simp [Program.fieldsOf, Try.underlying52, Op.eqFields, recC, go_sem, Try.underlying50, Try.underlying23, Try.underlying4]
  have hsl : s.toList = s'.toList ↔ s = s' := by
    rw [ByteArray.toList_eq, ByteArray.toList_eq]
    exact ⟨fun h => ByteArray.ext (Array.toList_inj.1 h), fun h => by rw [h]⟩
  simp only [hsl]
  unfold req
  by_cases h1 : s = s'
  · by_cases h2 : e = e'
    · by_cases h3 : i = i'
      · by_cases h4 : u = u'
        · by_cases h5 : t = t'
          · simp [h1, h2, h3, h4, h5]
          · simp [h1, h2, h3, h4, h5]
        · simp [h1, h2, h3, h4]
      · simp [h1, h2, h3]
    · simp [h1, h2]
  · simp [h1]

theorem zero52 (w : World) : (zeroValue 52).run Try.prog w = .ok (recV zeroRec) w := by kernel_rfl
end RecW

/-! ### maps whose keys are strings or numbers, whose elements are whatever -/
/-- Block r is a map whose entries are l, each key laid by kv. -/
def MapOf {K : Type} (kv : K → Value) (w : World) (r : Nat) (l : List (K × Value)) : Prop :=
  ∃ es clock, w.heap[r]? = some (.map es clock) ∧ es.toList.map (fun e => (e.key, e.val)) = l.map (fun p => (kv p.1, p.2))

/-- What the map holds at k. -/
def lookL {K : Type} [DecidableEq K] (l : List (K × Value)) (k : K) : Option Value := (l.find? (fun p => decide (p.1 = k))).map (·.2)

namespace MapW
section
variable {K : Type} [DecidableEq K] {kv : K → Value} {d : TypeDesc}

theorem find_none (hs : ∀ a b, Instr.sameNow d (kv a) (kv b) = some (decide (a = b))) (k : K) : ∀ (es : List MapEntry) (l : List (K × Value)) (n : Nat), es.map (fun e => (e.key, e.val)) = l.map (fun p => (kv p.1, p.2)) → lookL l k = none → Instr.findNow d (kv k) es n = some none
  | [], l, n, h, _ => rfl
  | e :: es, [], n, h, _ => by simp at h
  | e :: es, p :: l, n, h, hl => by
    simp only [List.map_cons, List.cons.injEq, Prod.mk.injEq] at h
    obtain ⟨⟨h1, h2⟩, h3⟩ := h
    have hne : ¬ p.1 = k := by
      intro e1
      simp [lookL, e1] at hl
    have hl' : lookL l k = none := by simpa [lookL, hne] using hl
    unfold Instr.findNow
    rw [h1, hs]
    have : (decide (k = p.1)) = false := by simp; exact fun e => hne e.symm
    rw [this]
    exact find_none hs k es l (n + 1) h3 hl'

theorem find_some (hs : ∀ a b, Instr.sameNow d (kv a) (kv b) = some (decide (a = b))) (k : K) (v : Value) : ∀ (es : List MapEntry) (l : List (K × Value)) (n : Nat), es.map (fun e => (e.key, e.val)) = l.map (fun p => (kv p.1, p.2)) → lookL l k = some v → ∃ i, Instr.findNow d (kv k) es n = some (some (i, v))
  | [], [], n, h, hl => by simp [lookL] at hl
  | [], p :: l, n, h, hl => by simp at h
  | e :: es, [], n, h, _ => by simp at h
  | e :: es, p :: l, n, h, hl => by
    simp only [List.map_cons, List.cons.injEq, Prod.mk.injEq] at h
    obtain ⟨⟨h1, h2⟩, h3⟩ := h
    unfold Instr.findNow
    rw [h1, hs]
    by_cases e1 : p.1 = k
    · have : (decide (k = p.1)) = true := by simp [e1]
      rw [this]
      have hv : p.2 = v := by simpa [lookL, e1] using hl
      exact ⟨n, by simp [h2, hv]⟩
    · have : (decide (k = p.1)) = false := by simp; exact fun e => e1 e.symm
      rw [this]
      have hl' : lookL l k = some v := by simpa [lookL, e1] using hl
      exact find_some hs k v es l (n + 1) h3 hl'
end
end MapW
end Go.Proofs.Qxb6001298a
