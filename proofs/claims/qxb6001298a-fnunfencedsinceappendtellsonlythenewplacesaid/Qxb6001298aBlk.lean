/-
  A BLOCK OF ONE-CELL VALUES THAT THE CALL ITSELF MADE, known whole; and a number's decimal text, plainly.
-/
import Derived.Test.Qxb6001298aRows
import Derived.WalkKit
import Derived.ProofKit
import Derived.WalkSpells
namespace Go.Proofs.Qxb6001298a
open Go.RowKit

/-- Block g holds the cells vs, of element type E, and may be written. -/
def Blk (w : World) (g : Nat) (E : TypeId) (vs : List Value) : Prop := w.heap[g]? = some (.cells vs.toArray E (0, 0))

theorem Blk.lt {w : World} {g : Nat} {E : TypeId} {vs : List Value} (h : Blk w g E vs) : g < w.heap.size := (Array.getElem?_eq_some_iff.1 h).1

theorem Blk.cell {w : World} {g : Nat} {E : TypeId} {vs : List Value} (h : Blk w g E vs) (j : Nat) : w.cell? ⟨g, j, none⟩ = vs[j]? := by
  unfold Blk at h
  simp [World.cell?, h]

theorem Blk.frozen {w : World} {g : Nat} {E : TypeId} {vs : List Value} (h : Blk w g E vs) (j : Nat) : w.frozen? ⟨g, j, none⟩ = false := by
  unfold Blk at h
  simp [World.frozen?, h]

theorem Blk.set {w : World} {g : Nat} {E : TypeId} {vs : List Value} (h : Blk w g E vs) (j : Nat) (v : Value) : Blk (w.setCell ⟨g, j, none⟩ v) g E (vs.set j v) := by
  unfold Blk at h ⊢
  rw [heap_setCell_same w g j _ E _ h]
  simp

theorem Blk.kept {w w' : World} {g : Nat} {E : TypeId} {vs : List Value} (h : Blk w g E vs) (hb : w'.heap[g]? = w.heap[g]?) : Blk w' g E vs := hb.trans h

theorem Blk.below {w w' : World} {g B : Nat} {E : TypeId} {vs : List Value} (h : Blk w g E vs) (hb : Below B w w') (hg : g < B) : Blk w' g E vs := h.kept (hb.block g hg)

theorem Blk.other {w : World} {g : Nat} {E : TypeId} {vs : List Value} (h : Blk w g E vs) {a : Addr} (v : Value) (hne : g ≠ a.block) : Blk (w.setCell a v) g E vs := h.kept (heap_setCell_other w a g v hne)

/-- What 'make' leaves. -/
theorem blk_made {w' : World} {base g n : Nat} {E : TypeId} {z : Value} (hz : z.cells = #[z]) (h : w'.ownsRow base E 1 (.slice (some ⟨g, 0, none⟩) n n) n (madeCells z.cells (n * 1)).toList) : Blk w' g E (List.replicate n z) := by
  rcases h.2 with ⟨h', _⟩ | ⟨g', cap', cur, h', _, hg, _, _, hcs, htake⟩
  · simp at h'
  · simp only [Value.slice.injEq, Option.some.injEq, Addr.mk.injEq, and_true, true_and] at h'
    obtain ⟨rfl, rfl⟩ := h'
    unfold Blk
    rw [hg]
    congr 2
    apply Array.toList_inj.1
    have e : cur.toList = cur.toList.take (n * 1) := (List.take_of_length_le (by simp [hcs])).symm
    rw [e, htake, hz, toList_madeCells_one]
    simp

/-! ### decimal texts -/
/-- The number that a text of digits spells. -/
def val : List UInt8 → Nat
  | [] => 0
  | c :: t => (c.toNat - 48) * 10 ^ t.length + val t

def Digits (l : List UInt8) : Prop := ∀ c ∈ l, 48 ≤ c.toNat ∧ c.toNat ≤ 57

theorem val_snoc (l : List UInt8) (c : UInt8) : val (l ++ [c]) = val l * 10 + (c.toNat - 48) := by
  induction l with
  | nil => simp [val]
  | cons d t ih =>
    simp only [List.cons_append, val, ih, List.length_append, List.length_singleton, Nat.pow_succ]
    rw [Nat.add_mul, Nat.mul_assoc]
    omega

theorem val_lt (l : List UInt8) (h : Digits l) : val l < 10 ^ l.length := by
  induction l with
  | nil => simp [val]
  | cons d t ih =>
    have h1 := h d (List.mem_cons_self ..)
    have h2 := ih (fun c hc => h c (List.mem_cons_of_mem _ hc))
    simp only [val, List.length_cons, Nat.pow_succ]
    have h3 : (d.toNat - 48) * 10 ^ t.length ≤ 9 * 10 ^ t.length := Nat.mul_le_mul_right _ (by omega)
    omega

/-- s is a decimal text of i, of one to nine digits. -/
def DecOf (s : ByteArray) (i : Nat) : Prop := 1 ≤ s.size ∧ s.size ≤ 9 ∧ Digits s.data.toList ∧ val s.data.toList = i

end Go.Proofs.Qxb6001298a
