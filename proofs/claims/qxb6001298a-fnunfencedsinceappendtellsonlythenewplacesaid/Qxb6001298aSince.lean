/-
  THE WALKS of unfencedSince and ZZunfencedSince.
-/
import Derived.Test.Qxb6001298aMsg
namespace Go.Proofs.Qxb6001298a.MsgW
open Go.RowKit
open MapW (kvU)
set_option linter.unusedVariables false

/-! ### a row of cells stored into a block -/
/-- cs with vs laid from o on. -/
def spl : List Value → Nat → List Value → List Value
  | cs, _, [] => cs
  | cs, o, v :: r => spl (cs.set o v) (o + 1) r

theorem spl_len : ∀ (vs cs : List Value) (o : Nat), (spl cs o vs).length = cs.length
  | [], _, _ => rfl
  | v :: r, cs, o => by rw [spl, spl_len r]; simp

theorem spl_get : ∀ (vs cs : List Value) (o j : Nat), o + vs.length ≤ cs.length → (spl cs o vs)[j]? = if o ≤ j ∧ j < o + vs.length then vs[j - o]? else cs[j]?
  | [], cs, o, j, _ => by
    rw [spl, if_neg (by simp)]
  | v :: r, cs, o, j, h => by
    simp only [List.length_cons] at h
    rw [spl, spl_get r (cs.set o v) (o + 1) j (by simp; omega)]
    by_cases h1 : o + 1 ≤ j ∧ j < o + 1 + r.length
    · rw [if_pos h1, if_pos (by simp only [List.length_cons]; omega), show j - o = (j - (o + 1)) + 1 by omega]
      simp
    · rw [if_neg h1, List.getElem?_set]
      by_cases h2 : o = j
      · subst h2
        rw [if_pos rfl, if_pos (by omega), if_pos (by simp only [List.length_cons]; omega)]
        simp
      · rw [if_neg h2, if_neg (by simp only [List.length_cons]; omega)]

theorem spl_one : ∀ (vs cs : List Value) (o : Nat), (∀ v ∈ vs, v.oneCell' = true) → (∀ v ∈ cs, v.oneCell' = true) → ∀ v ∈ spl cs o vs, v.oneCell' = true
  | [], cs, o, _, h2, v, hv => h2 v hv
  | u :: r, cs, o, h1, h2, v, hv => by
    refine spl_one r (cs.set o u) (o + 1) (fun x hx => h1 x (List.mem_cons_of_mem _ hx)) (fun x hx => ?_) v hv
    rcases List.mem_or_eq_of_mem_set hx with h | h
    · exact h2 x h
    · rw [h]; exact h1 u (List.mem_cons_self ..)

theorem spl_whole (vs cs : List Value) (h : vs.length = cs.length) : spl cs 0 vs = vs := by
  apply List.ext_getElem?
  intro j
  rw [spl_get vs cs 0 j (by omega)]
  by_cases hj : j < vs.length
  · rw [if_pos (by omega)]; simp
  · rw [if_neg (by omega), List.getElem?_eq_none (by omega), List.getElem?_eq_none (by omega)]

theorem Blk.setCells {g : Nat} {E : TypeId} : ∀ (vs : List Value) {w : World} {cs : List Value} (o : Nat), Blk w g E cs → Blk (w.setCells g o vs) g E (spl cs o vs)
  | [], w, cs, o, h => h
  | v :: r, w, cs, o, h => Blk.setCells r (o + 1) (h.set o v)

theorem setCells_other (g : Nat) : ∀ (vs : List Value) (w : World) (o j : Nat), j ≠ g → (w.setCells g o vs).heap[j]? = w.heap[j]?
  | [], w, o, j, h => rfl
  | v :: r, w, o, j, h => (setCells_other g r _ (o + 1) j h).trans (heap_setCell_other w ⟨g, o, none⟩ j v h)

theorem setCells_size (g : Nat) : ∀ (vs : List Value) (w : World) (o : Nat), (w.setCells g o vs).heap.size = w.heap.size
  | [], w, o => rfl
  | v :: r, w, o => (setCells_size g r _ (o + 1)).trans (by simp [World.setCell])

theorem below_setCells {B g : Nat} {a : World} : ∀ (vs : List Value) {w : World} (o : Nat), Below B a w → B ≤ g → Below B a (w.setCells g o vs)
  | [], w, o, h, _ => h
  | v :: r, w, o, h, hg => below_setCells r (o + 1) (h.setCell (p := ⟨g, o, none⟩) hg v) hg

theorem Blk.there {w : World} {g : Nat} {E : TypeId} {cs : List Value} (h : Blk w g E cs) (o n : Nat) (hn : o + n ≤ cs.length) : w.there g o n := fun j hj => by
  refine ⟨?_, h.frozen _⟩
  rw [h.cell, List.getElem?_eq_getElem (by omega)]
  rfl

/-- 'var x T', whatever its size. -/
theorem run_alloc_big {P : Program} (w : World) (T : TypeId) (i : TypeInfo) (z : Value) (hi : P.info? T = some i) (hz : i.zero = some z) :
    (Instr.alloc T true (.tuple #[])).run P w = .ok (.pointer (some ⟨w.heap.size, 0, none⟩)) (w.alloc (.cells z.cells T)) := by
  simp [Instr.alloc, zeroValue, typeInfo, hi, hz, newVar, newRow]

theorem wpList_alloc_big {P : Program} {ops : Array Oper} {rest : List Oper} {o : Oper} {a : Act} {w : World} {Q : Exit → Act → World → Prop} (hgd : o.guard = none) (T : TypeId) (ho : o.op = .alloc T)
    (Z : List Value) (hrun : ∀ w, (Instr.alloc T true (.tuple #[])).run P w = .ok (.pointer (some ⟨w.heap.size, 0, none⟩)) (w.alloc (.cells Z.toArray T)))
    (h : wpList P ops Q rest (a.put o.dst (.pointer (some ⟨w.heap.size, 0, none⟩))) (w.alloc (.cells Z.toArray T))) : wpList P ops Q (o :: rest) a w := by
  refine wpList_plain hgd fun K hK' => ?_
  unfold Oper.wp
  simp [execOp, ho, hrun, Result.andThen]
  exact hK' _ _ h

/-- The zero cells of a type. -/
theorem zero_of {T : TypeId} {n : Nat} (h : ((Try.prog.info? T).bind (·.zero)).map (fun z => (z.cells.size, z.cells.all (·.oneCell'))) = some (n, true)) :
    ∃ Z : List Value, Z.length = n ∧ (∀ v ∈ Z, v.oneCell' = true) ∧ ∀ w, (Instr.alloc T true (.tuple #[])).run Try.prog w = .ok (.pointer (some ⟨w.heap.size, 0, none⟩)) (w.alloc (.cells Z.toArray T)) := by
  obtain ⟨z, hz, e⟩ := Option.map_eq_some_iff.1 h
  obtain ⟨i, hi, hzi⟩ := Option.bind_eq_some_iff.1 hz
  simp only [Prod.mk.injEq] at e
  refine ⟨z.cells.toList, by simpa using e.1, ?_, fun w => ?_⟩
  · intro v hv
    have := Array.all_eq_true'.1 e.2 v (by simpa using hv)
    exact this
  · simpa using run_alloc_big w T i z hi hzi

theorem z81 : ((Try.prog.info? 81).bind (·.zero)).map (fun z => (z.cells.size, z.cells.all (·.oneCell'))) = some (34, true) := by kernel_rfl
theorem z67 : ((Try.prog.info? 67).bind (·.zero)).map (fun z => (z.cells.size, z.cells.all (·.oneCell'))) = some (61, true) := by kernel_rfl

/-- The reports of a message, place by place. -/
def tells (nl : List (ByteArray × Rec)) (q : Rep) (rs : List Rep) : Nat → List (Int × Rec)
  | 0 => tellL nl [] 0 q
  | i + 1 => tellL nl (tells nl q rs i) ((i : Int) + 1) (rs.getD i (⟨#[]⟩, zeroRec))

/-- The relayed reports: L of them, 34 cells each. -/
structure RelAt (w : World) (ao : Option Addr) (gR L : Nat) (rs : List Rep) : Prop where
  at_ : 0 < L → ao = some ⟨gR, 0, none⟩
  lt : 0 < L → gR < w.heap.size
  len : rs.length = L
  row : ∀ i, i < L → ∃ D : List Value, D.length = 34 ∧ (∀ v ∈ D, v.oneCell' = true) ∧ IsRep (D.take 33) (rs.getD i (⟨#[]⟩, zeroRec)) ∧ w.rangeAt gR (i * 34) D

theorem wpList_store_midL {P : Program} {ops : Array Oper} {rest : List Oper} {op : Oper} {a : Act} {w : World} {Q : Exit → Act → World → Prop} (hgd : op.guard = none) (ty : TypeId) (x y : Operand) (ho : op.op = .store ty x y)
    (b o : Nat) (cs : List Value) (hx : a.eval x = .pointer (some ⟨b, o, none⟩)) (hy : a.eval y = .agg cs.toArray)
    (ht : w.there b o cs.length) (hi : (P.info? ty).map (·.size) = some cs.length) (h1 : ∀ v ∈ cs, v.oneCell' = true)
    (h : wpList P ops Q rest (a.put op.dst undef) (w.setCells b o cs)) : wpList P ops Q (op :: rest) a w :=
  wpList_store_mid hgd ty x y ho b o cs.toArray hx hy (by simpa using ht) (by simpa using hi) (all_oneCell_toArray h1) (by simpa using h)

theorem Inv.below {B gm gs : Nat} {M : List Value} {l : List (Int × Rec)} {w w' : World} (h : Inv B gm gs M l w) (hb : Below w.heap.size w w') : Inv B gm gs M l w' := by
  obtain ⟨v, h1, h2⟩ := h.since
  exact ⟨h.msg.below hb h.msg.lt, v, h1.below hb h1.lt, h2.below hb (Nat.le_refl _)⟩

theorem RelAt.below {w w' : World} {ao : Option Addr} {gR L : Nat} {rs : List Rep} (h : RelAt w ao gR L rs) (hb : Below w.heap.size w w') : RelAt w' ao gR L rs where
  at_ := h.at_
  lt := fun h0 => Nat.lt_of_lt_of_le (h.lt h0) hb.size
  len := h.len
  row := fun i hi => by
    obtain ⟨D, h1, h2, h3, h4⟩ := h.row i hi
    exact ⟨D, h1, h2, h3, fun j v hv => (hb.cell (p := ⟨gR, i * 34 + j, none⟩) (h.lt (by omega))).trans (h4 j v hv)⟩

theorem SinceAt.less {w : World} {B C : Nat} {v : Value} {l : List (Int × Rec)} (h : SinceAt w B v l) (hC : C ≤ B) : SinceAt w C v l := by
  rcases h with h | ⟨r, h1, h2, h3⟩
  · exact Or.inl h
  · exact Or.inr ⟨r, h1, by omega, h3⟩

set_option maxRecDepth 20000 in
set_option maxHeartbeats 2000000 in
theorem unf30 (M : List Value) (q : Rep) (nodes : Value) (ao : Option Addr) (gR L cL : Nat) (rs : List Rep) (nl : List (ByteArray × Rec)) (w : World)
    (hM : IsMsg M q nodes (.slice ao L cL)) (hR : RelAt w ao gR L rs) (hN : NodesAt w w.heap.size nodes nl) (hL : L ≤ 1048576) :
    Calls Try.prog 30 #[.agg M.toArray] w fun e w' => ∃ v, e = .returned v ∧ SinceAt w' w.heap.size v (tells nl q rs L) ∧ Below w.heap.size w w' := by
  have iM : (Try.prog.info? 67).map (·.size) = some M.toArray.size := by rw [size67]; simp [hM.len]
  have ba : Below w.heap.size w ((w.alloc (.cells M.toArray 67)).alloc (.cells #[.map none] 69)) := ((Below.refl _ _).alloc (Nat.le_refl _) _).alloc (by simp) _
  have bM : Blk ((w.alloc (.cells M.toArray 67)).alloc (.cells #[.map none] 69)) w.heap.size 67 M := (Below.heap_alloc _ _ _ (by simp)).trans (heap_alloc_new w _)
  have bS : Blk ((w.alloc (.cells M.toArray 67)).alloc (.cells #[.map none] 69)) (w.heap.size + 1) 69 [.map none] := by
    have := heap_alloc_new (w.alloc (.cells M.toArray 67)) (.cells #[.map none] 69)
    simpa [Blk] using this
  have hI0 : Inv w.heap.size w.heap.size (w.heap.size + 1) M [] ((w.alloc (.cells M.toArray 67)).alloc (.cells #[.map none] 69)) := ⟨bM, _, bS, Or.inl ⟨rfl, rfl⟩⟩
  have HR : Hid (((w.alloc (.cells M.toArray 67)).alloc (.cells #[.map none] 69)).rangeAt w.heap.size 2 ((M.drop 2).take 33)) := bM.range 2 33
  have HI : Hid ((Try.prog.info? 55).map (·.size) = some ((M.drop 2).take 33).length) := by unfold Hid; rw [size55, hM.rep.len]
  have nA := hN.below ba (Nat.le_refl _)
  clear bM bS
  go_enter Try.func30, Try.ntmps30
  go_wp2_with (refine wpList_load_mid rfl 55 (.tmp 9) rfl w.heap.size 2 rfl ((M.drop 2).take 33) _ (by exact HR.out) Try.underlying55 rfl HI.out ?_)
  refine (tell33 w.heap.size w.heap.size (w.heap.size + 1) M _ q q nodes _ nl [] 0 _ hI0 hM hM.rep nA (by simp; omega) (Nat.le_refl _) (by omega) (by omega)).mono ?_
  rintro e w1 ⟨rfl, hI1, b1⟩
  have b1 := ba.trans b1
  obtain ⟨Z, hZ1, hZ2, hZ3⟩ := zero_of z81
  have HZ : Hid (∀ w, (Instr.alloc 81 true (.tuple #[])).run Try.prog w = .ok (.pointer (some ⟨w.heap.size, 0, none⟩)) (w.alloc (.cells Z.toArray 81))) := hZ3
  have c52 := hI1.msg.cell 52
  rw [hM.rel] at c52
  clear hI0 nA HR ba hZ3 iM
  go_wp2_with fail
  go_loopw [15] (fun x wr => ∃ i : Nat, i ≤ L ∧ x = .int .i64 i ∧ Inv w.heap.size w.heap.size (w.heap.size + 1) M (tells nl q rs i) wr ∧ Below w.heap.size w wr) (fun x _ => L - (intOf x).toNat)
  case atStart => exact ⟨0, Nat.zero_le _, rfl, hI1, b1⟩
  case round =>
    obtain ⟨i, hi, rfl, hI, hbel⟩ := hrel
    clear hI1 b1 c52
    by_cases hlt : i < L
    · obtain ⟨D, hD1, hD2, hD3, hD4⟩ := hR.row i hlt
      obtain rfl := hR.at_ (by omega)
      have gl := hR.lt (by omega)
      have hrange : wr.rangeAt gR (i * 34) D := fun j v hv => (hbel.cell (p := ⟨gR, i * 34 + j, none⟩) gl).trans (hD4 j v hv)
      have HD : Hid (wr.rangeAt gR (i * 34) D) := hrange
      have HI81 : Hid ((Try.prog.info? 81).map (·.size) = some D.length) := by unfold Hid; rw [size81, hD1]
      clear hrange
      have bZ : Blk (wr.alloc (.cells Z.toArray 81)) wr.heap.size 81 Z := heap_alloc_new wr _
      have HT : Hid ((wr.alloc (.cells Z.toArray 81)).there wr.heap.size 0 D.length) := Blk.there bZ 0 D.length (by omega)
      have bD := Blk.setCells D 0 bZ
      rw [spl_whole D Z (by omega)] at bD
      have b4 : Below wr.heap.size wr ((wr.alloc (.cells Z.toArray 81)).setCells wr.heap.size 0 D) := below_setCells D 0 ((Below.refl _ _).alloc (Nat.le_refl _) _) (Nat.le_refl _)
      have HO : Hid (∀ v ∈ D, v.oneCell' = true) := hD2
      have HI4 : Hid (Inv w.heap.size w.heap.size (w.heap.size + 1) M (tells nl q rs i) ((wr.alloc (.cells Z.toArray 81)).setCells wr.heap.size 0 D)) := hI.below b4
      have HR4 : Hid (((wr.alloc (.cells Z.toArray 81)).setCells wr.heap.size 0 D).rangeAt wr.heap.size 0 (D.take 33)) := bD.range 0 33
      have HI55 : Hid ((Try.prog.info? 55).map (·.size) = some (D.take 33).length) := by unfold Hid; rw [size55, hD3.len]
      have hb4 := hbel.trans (b4.mono hbel.size)
      have HN4 : Hid (NodesAt ((wr.alloc (.cells Z.toArray 81)).setCells wr.heap.size 0 D) w.heap.size nodes nl) := hN.below hb4 (Nat.le_refl _)
      have HB4 : Hid (Below w.heap.size w ((wr.alloc (.cells Z.toArray 81)).setCells wr.heap.size 0 D)) := hb4
      have HC : Hid (IsRep (D.take 33) (rs.getD i (⟨#[]⟩, zeroRec))) := hD3
      have HM : Hid (IsMsg M q nodes (.slice (some ⟨gR, 0, none⟩) L cL)) := hM
      clear bZ bD b4 hb4 hD2 hD3 hD4 hI hM hN HI
      go_wp2_with (first
        | refine wpList_load_mid rfl 81 (.tmp 18) rfl gR (i * 34) rfl D _ (by exact HD.out) Try.underlying81 rfl HI81.out ?_
        | refine wpList_alloc_big rfl 81 rfl Z HZ.out ?_
        | refine wpList_store_midL rfl 81 (.tmp 6) (.tmp 19) rfl wr.heap.size 0 D rfl rfl HT.out HI81.out HO.out ?_
        | refine wpList_load_mid rfl 55 (.tmp 24) rfl wr.heap.size 0 rfl (D.take 33) _ (by exact HR4.out) Try.underlying55 rfl HI55.out ?_)
      refine (tell33 w.heap.size w.heap.size (w.heap.size + 1) M _ q _ nodes _ nl _ _ _ HI4.out HM.out HC.out HN4.out (by have := HB4.out.size; omega) (Nat.le_refl _) (by omega) (by omega)).mono ?_
      rintro e w5 ⟨rfl, hI5, b5⟩
      have HI5 : Hid (Inv w.heap.size w.heap.size (w.heap.size + 1) M (tells nl q rs (i + 1)) w5) := hI5
      have HB5 : Hid (Below w.heap.size w w5) := HB4.out.trans b5
      clear hI5 b5
      go_wp2_with fail
      go_roundw
      case rel => exact ⟨i + 1, by omega, by go_num, HI5.out, HB5.out⟩
      case measure => simp [intOf]; omega
    · obtain rfl : L = i := by omega
      obtain ⟨v, hv, hS⟩ := hI.since
      have cv := hv.cell 0
      rw [show ([v] : List Value)[0]? = some v from rfl] at cv
      have HS : Hid (SinceAt wr w.heap.size v (tells nl q rs L)) := hS
      clear hI hS hv hN hR
      go_wp2_with fail
      go_ret
      exact ⟨v, rfl, HS.out, hbel⟩

set_option maxRecDepth 20000 in
set_option maxHeartbeats 2000000 in
/-- unfencedSince, as the laws call it. -/
theorem since20 (M : List Value) (q : Rep) (nodes : Value) (ao : Option Addr) (gR L cL : Nat) (rs : List Rep) (nl : List (ByteArray × Rec)) (w : World)
    (hM : IsMsg M q nodes (.slice ao L cL)) (hR : RelAt w ao gR L rs) (hN : NodesAt w w.heap.size nodes nl) (hL : L ≤ 1048576) :
    Calls Try.prog 20 #[.agg M.toArray] w fun e w' => ∃ v, e = .returned v ∧ SinceAt w' w.heap.size v (tells nl q rs L) ∧ Below w.heap.size w w' := by
  have HIM : Hid ((Try.prog.info? 67).map (·.size) = some M.toArray.size) := by unfold Hid; rw [size67]; simp [hM.len]
  have ba : Below w.heap.size w (w.alloc (.cells M.toArray 67)) := (Below.refl _ _).alloc (Nat.le_refl _) _
  have hR1 := hR.below ba
  have hN1 := (hN.below ba (Nat.le_refl _)).more (C := (w.alloc (.cells M.toArray 67)).heap.size) (by simp)
  go_enter Try.func20, Try.ntmps20
  go_wp2_with (refine wpList_load_row rfl 67 _ rfl w.heap.size rfl 67 M.toArray (0,0) _ (heap_alloc_new w _) Try.underlying67 rfl HIM.out ?_)
  refine (unf30 M q nodes ao gR L cL rs nl _ hM hR1 hN1 hL).mono ?_
  rintro e w1 ⟨v, rfl, h1, h2⟩
  have HS : Hid (SinceAt w1 w.heap.size v (tells nl q rs L)) := h1.less (by simp)
  have HB : Hid (Below w.heap.size w w1) := ba.trans (h2.mono (by simp))
  clear h1 h2
  go_wp2_with fail
  go_ret
  exact ⟨v, rfl, HS.out, HB.out⟩

end Go.Proofs.Qxb6001298a.MsgW
