/-
  MESSAGES: toldApart, mapOf, the closure of unfencedSince.
-/
import Derived.Test.Qxb6001298aMaps
import Derived.Deep.MidRow
namespace Go.Proofs.Qxb6001298a
open Go.RowKit
set_option linter.unusedVariables false

/-! ### plain: association lists of records -/
def lookR {K : Type} [DecidableEq K] (l : List (K × Rec)) (k : K) : Option Rec := (l.find? (fun p => decide (p.1 = k))).map (·.2)
def updR {K : Type} [DecidableEq K] : List (K × Rec) → K → Rec → List (K × Rec)
  | [], k, v => [(k, v)]
  | p :: l, k, v => if p.1 = k then (k, v) :: l else p :: updR l k v
def valsOf {K : Type} (l : List (K × Rec)) : List (K × Value) := l.map (fun p => (p.1, recV p.2))

theorem lookL_vals {K : Type} [DecidableEq K] (l : List (K × Rec)) (k : K) : lookL (valsOf l) k = (lookR l k).map recV := by
  induction l with
  | nil => rfl
  | cons p l ih =>
    by_cases h : p.1 = k
    · simp [lookL, lookR, valsOf, h]
    · have : lookL (valsOf (p :: l)) k = lookL (valsOf l) k := by simp [lookL, valsOf, h]
      rw [this, ih]
      simp [lookR, h]
theorem updL_vals {K : Type} [DecidableEq K] (l : List (K × Rec)) (k : K) (v : Rec) : updL (valsOf l) k (recV v) = valsOf (updR l k v) := by
  induction l with
  | nil => rfl
  | cons p l ih =>
    by_cases h : p.1 = k
    · simp [updL, updR, valsOf, h]
    · have e : valsOf (p :: l) = (p.1, recV p.2) :: valsOf l := rfl
      rw [e]
      simp only [updL, updR, h, if_false, ih]
      rfl

/-- The record held of k: the zero one where there is none. -/
def held {K : Type} [DecidableEq K] (l : List (K × Rec)) (k : K) : Rec := (lookR l k).getD zeroRec
theorem held_vals {K : Type} [DecidableEq K] (l : List (K × Rec)) (k : K) : (lookL (valsOf l) k).getD (recV zeroRec) = recV (held l k) := by
  rw [lookL_vals, held]
  cases lookR l k <;> rfl

/-- The nodes' map of a message: nil, or a block below B. -/
def NodesAt (w : World) (B : Nat) (v : Value) (l : List (ByteArray × Rec)) : Prop :=
  (v = .map none ∧ l = []) ∨ ∃ r, v = .map (some r) ∧ r < B ∧ MapOf Value.string w r (valsOf l)

theorem NodesAt.below {w w' : World} {B C : Nat} {v : Value} {l : List (ByteArray × Rec)} (h : NodesAt w B v l) (hb : Below C w w') (hC : B ≤ C) : NodesAt w' B v l := by
  rcases h with h | ⟨r, h1, h2, h3⟩
  · exact Or.inl h
  · exact Or.inr ⟨r, h1, h2, MapW.MapOf_below h3 hb (by omega)⟩

theorem NodesAt.more {w : World} {B C : Nat} {v : Value} {l : List (ByteArray × Rec)} (h : NodesAt w B v l) (hC : B ≤ C) : NodesAt w C v l := by
  rcases h with h | ⟨r, h1, h2, h3⟩
  · exact Or.inl h
  · exact Or.inr ⟨r, h1, by omega, h3⟩

theorem NodesAt.look {w : World} {B : Nat} {v : Value} {l : List (ByteArray × Rec)} (h : NodesAt w B v l) (k : ByteArray) :
    (Instr.lookup 62 v (.string k) false).run Try.prog w = .ok (recV (held l k)) w := by
  rcases h with ⟨rfl, rfl⟩ | ⟨r, rfl, _, h3⟩
  · exact MapW.look62_nil w k
  · rw [MapW.look62 w r _ k h3, held_vals]

/-! ### plain: the cells of a report, of a message -/
structure IsRep (C : List Value) (p : Rep) : Prop where
  len : C.length = 33
  from_ : C[0]? = some (.string p.1)
  rec_ : (C.drop 18).take 5 = recC p.2
  one : ∀ v ∈ C, v.oneCell' = true

structure IsMsg (M : List Value) (p : Rep) (nodes rel : Value) : Prop where
  len : M.length = 61
  rep : IsRep ((M.drop 2).take 33) p
  nodes : M[50]? = some nodes
  rel : M[52]? = some rel
  one : ∀ v ∈ M, v.oneCell' = true

theorem Blk.range {w : World} {g : Nat} {E : TypeId} {cs : List Value} (h : Blk w g E cs) (o n : Nat) : w.rangeAt g o ((cs.drop o).take n) := by
  intro j v hv
  rw [h.cell]
  rw [List.getElem?_take] at hv
  split at hv
  · rw [List.getElem?_drop] at hv
    exact hv
  · cases hv

namespace MsgW
open MapW (kvU)
theorem size67 : (Try.prog.info? 67).map (·.size) = some 61 := by kernel_rfl
theorem size55 : (Try.prog.info? 55).map (·.size) = some 33 := by kernel_rfl
theorem size81 : (Try.prog.info? 81).map (·.size) = some 34 := by kernel_rfl
theorem guard52 (x y : Operand) (a b : Rec) (w : World) : (eqGuard .neq 52 x y (.agg (recC a).toArray) (recV b)).run Try.prog w = .ok () w := by
  unfold recV
  exact run_eqGuard_agg w .neq 52 x y _ _ (by kernel_rfl)
theorem size52 : (Try.prog.info? 52).map (·.size) = some 5 := by kernel_rfl

set_option maxRecDepth 20000 in
set_option maxHeartbeats 1000000 in
theorem told34 (M C : List Value) (q p : Rep) (nodes rel : Value) (nl : List (ByteArray × Rec)) (B : Nat) (w : World) (hM : IsMsg M q nodes rel) (hC : IsRep C p) (hN : NodesAt w B nodes nl) (hB : B ≤ w.heap.size) :
    Calls Try.prog 34 #[.agg M.toArray, .agg C.toArray] w fun e w' => e = .returned (.bool (!req p.2 (held nl p.1))) ∧ Below w.heap.size w w' := by
  have hbel : Below w.heap.size w ((w.alloc (.cells M.toArray 67)).alloc (.cells C.toArray 55)) := ((Below.refl _ _).alloc (Nat.le_refl _) _).alloc (by simp) _
  have bM : Blk ((w.alloc (.cells M.toArray 67)).alloc (.cells C.toArray 55)) w.heap.size 67 M := (Below.heap_alloc _ _ _ (by simp)).trans (heap_alloc_new w _)
  have bC : Blk ((w.alloc (.cells M.toArray 67)).alloc (.cells C.toArray 55)) (w.heap.size + 1) 55 C := by
    have := heap_alloc_new (w.alloc (.cells M.toArray 67)) (.cells C.toArray 55)
    simpa [Blk] using this
  have hR := bC.range 18 5
  rw [hC.rec_] at hR
  have c50 := bM.cell 50
  rw [hM.nodes] at c50
  have c0 := bC.cell 0
  rw [hC.from_] at c0
  have hL := (hN.below hbel hB).look p.1
  have hq : (binOp .neq 52 (.agg (recC p.2).toArray) (recV (held nl p.1))).run Try.prog ((w.alloc (.cells M.toArray 67)).alloc (.cells C.toArray 55)) = .ok (.bool (!req p.2 (held nl p.1))) ((w.alloc (.cells M.toArray 67)).alloc (.cells C.toArray 55)) := RecW.neq52 p.2 (held nl p.1) _
  have hgd := fun x y => guard52 x y p.2 (held nl p.1) ((w.alloc (.cells M.toArray 67)).alloc (.cells C.toArray 55))
  have HR : Hid (((w.alloc (.cells M.toArray 67)).alloc (.cells C.toArray 55)).rangeAt (w.heap.size + 1) 18 (recC p.2)) := hR
  have HI : Hid ((Try.prog.info? 52).map (·.size) = some (recC p.2).length) := size52
  have HB : Hid (Below w.heap.size w ((w.alloc (.cells M.toArray 67)).alloc (.cells C.toArray 55))) := hbel
  clear hR hbel bM bC hM hC hN
  go_enter Try.func34, Try.ntmps34
  go_wp2_with (refine wpList_load_mid rfl 52 (.tmp 5) rfl (w.heap.size + 1) 18 rfl (recC p.2) _ (by exact HR.out) Try.underlying52 rfl HI.out ?_)
  go_ret
  exact ⟨rfl, HB.out⟩
/-- What the variable 'since' holds: nil, or a map of the call's own. -/
def SinceAt (w : World) (B : Nat) (v : Value) (l : List (Int × Rec)) : Prop :=
  (v = .map none ∧ l = []) ∨ ∃ r, v = .map (some r) ∧ B ≤ r ∧ MapOf kvU w r (valsOf l)

set_option maxHeartbeats 400000 in
theorem mapOf35 (v : Value) (B : Nat) (l : List (Int × Rec)) (w : World) (hB : B ≤ w.heap.size) (h : SinceAt w B v l) :
    Calls Try.prog 35 #[v] w fun e w' => ∃ r, e = .returned (.map (some r)) ∧ B ≤ r ∧ MapOf kvU w' r (valsOf l) ∧ Below w.heap.size w w' := by
  have hmm := @run_makeMap Try.prog
  rcases h with ⟨rfl, rfl⟩ | ⟨r, rfl, hr, hm⟩
  · have he := fun wx => run_eql_map_nil (P := Try.prog) wx 69 23 52 none Try.underlying69
    go_enter Try.func35, Try.ntmps35
    go_wp2_with fail
    go_ret
    exact ⟨w.heap.size, rfl, hB, MapW.MapOf_new _ _, (Below.refl _ _).alloc (Nat.le_refl _) _⟩
  · have he := fun wx => run_eql_map_nil (P := Try.prog) wx 69 23 52 (some r) Try.underlying69
    have HM : Hid (MapOf kvU w r (valsOf l)) := hm
    clear hm
    go_enter Try.func35, Try.ntmps35
    go_wp2_with fail
    go_ret
    exact ⟨r, rfl, hr, HM.out, Below.refl _ _⟩

/-- What one report tells: an entry at its place where its record is not the one held of its sender. -/
def tellL (nl : List (ByteArray × Rec)) (l : List (Int × Rec)) (k : Int) (p : Rep) : List (Int × Rec) := if req p.2 (held nl p.1) = true then l else updR l k p.2

/-- The state in which the closure is called. -/
structure Inv (B gm gs : Nat) (M : List Value) (l : List (Int × Rec)) (w : World) : Prop where
  msg : Blk w gm 67 M
  since : ∃ v, Blk w gs 69 [v] ∧ SinceAt w B v l

theorem SinceAt.below {w w' : World} {B C : Nat} {v : Value} {l : List (Int × Rec)} (h : SinceAt w B v l) (hb : Below C w w') (hC : w.heap.size ≤ C) : SinceAt w' B v l := by
  rcases h with h | ⟨r, h1, h2, h3⟩
  · exact Or.inl h
  · exact Or.inr ⟨r, h1, h2, MapW.MapOf_below h3 hb (by have := MapW.MapOf_lt h3; omega)⟩

/-- A block of cells is no map. -/
theorem ne_of_map {w : World} {g r : Nat} {E : TypeId} {cs : List Value} {K : Type} {kv : K → Value} {l : List (K × Value)} (h : Blk w g E cs) (hm : MapOf kv w r l) : g ≠ r := by
  intro e
  subst e
  obtain ⟨es, c, h1, _⟩ := hm
  unfold Blk at h
  rw [h] at h1
  cases h1

set_option maxRecDepth 20000 in
set_option maxHeartbeats 1000000 in
theorem tell33 (B gm gs : Nat) (M C : List Value) (q p : Rep) (nodes rel : Value) (nl : List (ByteArray × Rec)) (l : List (Int × Rec)) (k : Int) (w : World)
    (hI : Inv B gm gs M l w) (hM : IsMsg M q nodes rel) (hC : IsRep C p) (hN : NodesAt w B nodes nl) (hB : B ≤ w.heap.size) (hm : B ≤ gm) (hs : B ≤ gs) (hne : gm ≠ gs) :
    Calls Try.prog 33 #[.int .u64 k, .agg C.toArray, .pointer (some ⟨gm, 0, none⟩), .pointer (some ⟨gs, 0, none⟩)] w fun e w' =>
      e = .returned (.tuple #[]) ∧ Inv B gm gs M (tellL nl l k p) w' ∧ Below B w w' := by
  obtain ⟨v, hv, hS⟩ := hI.since
  have lm := hI.msg.lt
  have ls := hv.lt
  have ba : Below w.heap.size w (w.alloc (.cells C.toArray 55)) := (Below.refl _ _).alloc (Nat.le_refl _) _
  have mA := hI.msg.below ba lm
  have iM : (Try.prog.info? 67).map (·.size) = some M.toArray.size := by rw [size67]; simp [hM.len]
  have iC : (Try.prog.info? 55).map (·.size) = some C.toArray.size := by rw [size55]; simp [hC.len]
  have HMA : Hid ((w.alloc (.cells C.toArray 55)).heap[gm]? = some (.cells M.toArray 67 (0, 0))) := mA
  have HCA : Hid ((w.alloc (.cells C.toArray 55)).heap[w.heap.size]? = some (.cells C.toArray 55 (0, 0))) := heap_alloc_new w _
  have HIM : Hid ((Try.prog.info? 67).map (·.size) = some M.toArray.size) := iM
  have HIC : Hid ((Try.prog.info? 55).map (·.size) = some C.toArray.size) := iC
  have nA := hN.below ba hB
  clear mA iM iC
  go_enter Try.func33, Try.ntmps33
  go_wp2_with (first | refine wpList_load_row rfl 67 (.tmp 2) rfl gm rfl 67 M.toArray (0, 0) _ HMA.out Try.underlying67 rfl HIM.out ?_ | refine wpList_load_row rfl 55 (.tmp 5) rfl w.heap.size rfl 55 C.toArray (0, 0) _ HCA.out Try.underlying55 rfl HIC.out ?_)
  refine (told34 M C q p nodes rel nl B _ hM hC nA (by simp; omega)).mono ?_
  rintro e w1 ⟨rfl, b1⟩
  have b1' : Below w.heap.size w w1 := ba.trans (b1.mono (by simp))
  by_cases hr : req p.2 (held nl p.1) = true
  · have H : Hid (tellL nl l k p = l) := by unfold Hid tellL; rw [if_pos hr]
    rw [hr]
    go_wp2_with fail
    go_end0
    refine ⟨rfl, ?_, b1'.mono hB⟩
    rw [H.out]
    exact ⟨hI.msg.below b1' lm, v, hv.below b1' ls, hS.below b1' (Nat.le_refl _)⟩
  · have H : Hid (tellL nl l k p = updR l k p.2) := by unfold Hid tellL; rw [if_neg hr]
    have hr' : req p.2 (held nl p.1) = false := by simpa using hr
    rw [hr']
    have v1 := hv.below b1' ls
    have m1 := hI.msg.below b1' lm
    have s1 := hS.below b1' (Nat.le_refl _)
    have c1 := v1.cell 0
    have f1 := v1.frozen 0
    rw [show ([v] : List Value)[0]? = some v from rfl] at c1
    have C1 : Blk w1 w.heap.size 55 C := (show Blk (w.alloc (.cells C.toArray 55)) w.heap.size 55 C from heap_alloc_new w _).below b1 (by simp)
    have lC := C1.lt
    clear hv hS nA
    go_wp2_with fail
    refine (mapOf35 v B l _ (by have := b1'.size; omega) s1).mono ?_
    rintro e w2 ⟨r, rfl, hrB, hMp, b2⟩
    have v2 := v1.below b2 v1.lt
    have m2 := m1.below b2 m1.lt
    have C2 := C1.below b2 lC
    have ls2 := v2.lt
    have ngr : gs ≠ r := ne_of_map v2 hMp
    have nmr : gm ≠ r := ne_of_map m2 hMp
    have ncr : w.heap.size ≠ r := ne_of_map C2 hMp
    have c2 := v2.cell 0
    have f2 := v2.frozen 0
    rw [show ([v] : List Value)[0]? = some v from rfl] at c2
    have v3 := v2.set 0 (.map (some r))
    rw [show ([v] : List Value).set 0 (.map (some r)) = [.map (some r)] from rfl] at v3
    have m3 := m2.other (a := ⟨gs, 0, none⟩) (.map (some r)) hne
    have C3 := C2.other (a := ⟨gs, 0, none⟩) (.map (some r)) (by simp; omega)
    have hMp3 : MapOf kvU (w2.setCell ⟨gs, 0, none⟩ (.map (some r))) r (valsOf l) := MapW.MapOf_kept hMp (heap_setCell_other _ _ _ _ (by simp; omega))
    have c3 := v3.cell 0
    rw [show ([.map (some r)] : List Value)[0]? = some (.map (some r)) from rfl] at c3
    have hR := C3.range 18 5
    rw [hC.rec_] at hR
    have HR : Hid ((w2.setCell ⟨gs, 0, none⟩ (.map (some r))).rangeAt w.heap.size 18 (recC p.2)) := hR
    have HI : Hid ((Try.prog.info? 52).map (·.size) = some (recC p.2).length) := size52
    obtain ⟨o, hrun, hMp4⟩ := MapW.upd69 _ r (valsOf l) k (recV p.2) hMp3
    rw [updL_vals] at hMp4
    have hrun' : (Instr.mapUpdate 69 (.map (some r)) (.int .u64 k) (.agg (recC p.2).toArray)).run Try.prog (w2.setCell ⟨gs, 0, none⟩ (.map (some r))) = .ok () (putMap (w2.setCell ⟨gs, 0, none⟩ (.map (some r))) r o) := hrun
    have bg := MapW.putMap_grown (w2.setCell ⟨gs, 0, none⟩ (.map (some r))) r o
    have F1 : Hid (Blk (putMap (w2.setCell ⟨gs, 0, none⟩ (.map (some r))) r o) gm 67 M) := m3.kept (MapW.putMap_other _ _ _ _ nmr)
    have F2 : Hid (Blk (putMap (w2.setCell ⟨gs, 0, none⟩ (.map (some r))) r o) gs 69 [.map (some r)]) := v3.kept (MapW.putMap_other _ _ _ _ ngr)
    have F3 : Hid (MapOf kvU (putMap (w2.setCell ⟨gs, 0, none⟩ (.map (some r))) r o) r (valsOf (updR l k p.2))) := hMp4
    have b3 : Below B w w2 := (b1'.mono hB).trans (b2.mono (by have := b1'.size; omega))
    have F4 : Hid (Below B w (putMap (w2.setCell ⟨gs, 0, none⟩ (.map (some r))) r o)) := (b3.setCell (p := ⟨gs, 0, none⟩) hs _).grown bg (by have := b3.size; simp [World.setCell]; omega) (by simp; omega)
    clear hR hrun hMp hMp3 hMp4 bg v1 v2 v3 m1 m2 m3 C1 C2 C3 s1 c1 f1 HMA HCA hI hN hM hC b1 ba b1' b2 b3
    go_wp2_with (refine wpList_load_mid rfl 52 (.tmp 13) rfl w.heap.size 18 rfl (recC p.2) _ (by exact HR.out) Try.underlying52 rfl HI.out ?_)
    go_end0
    rw [H.out]
    exact ⟨rfl, ⟨F1.out, _, F2.out, Or.inr ⟨r, rfl, hrB, F3.out⟩⟩, F4.out⟩

end MsgW
end Go.Proofs.Qxb6001298a
