/-
  THE WALK of FnUnfencedSinceAppendTellsOnlyTheNewPlace.
-/
import Derived.Test.Qxb6001298aTells
import Derived.Deep.CutRange
namespace Go.Proofs.Qxb6001298a.Append
open Go.RowKit
open MsgW
set_option linter.unusedVariables false

theorem repCells {w : World} {g : Nat} {f s : ByteArray} {e i u : Int} {t : Bool} (h : Blk w g 37 (repC (f, s, e, i, u, t))) :
    w.cell? ⟨g, 0, none⟩ = some (.string f) ∧ w.cell? ⟨g, 1, none⟩ = some (.string s) ∧ w.cell? ⟨g, 2, none⟩ = some (.int .u64 e) ∧ w.cell? ⟨g, 3, none⟩ = some (.int .u64 i) ∧ w.cell? ⟨g, 4, none⟩ = some (.int .u64 u) ∧ w.cell? ⟨g, 5, none⟩ = some (.bool t) :=
  ⟨(h.cell 0).trans rfl, (h.cell 1).trans rfl, (h.cell 2).trans rfl, (h.cell 3).trans rfl, (h.cell 4).trans rfl, (h.cell 5).trans rfl⟩

theorem recCells {w : World} {g : Nat} {s : ByteArray} {e i u : Int} {t : Bool} (h : Blk w g 52 (recC (s, e, i, u, t))) :
    w.cell? ⟨g, 0, none⟩ = some (.string s) ∧ w.cell? ⟨g, 1, none⟩ = some (.int .u64 e) ∧ w.cell? ⟨g, 2, none⟩ = some (.int .u64 i) ∧ w.cell? ⟨g, 3, none⟩ = some (.int .u64 u) ∧ w.cell? ⟨g, 4, none⟩ = some (.bool t) :=
  ⟨(h.cell 0).trans rfl, (h.cell 1).trans rfl, (h.cell 2).trans rfl, (h.cell 3).trans rfl, (h.cell 4).trans rfl⟩

/-- The two reports in their boxes, and the world only grown. -/
structure St (w : World) (g5 g7 : Nat) (p0 x : Rep) (w' : World) : Prop where
  b5 : Blk w' g5 37 (repC p0)
  b7 : Blk w' g7 37 (repC x)
  bel : Below w.heap.size w w'

theorem St.more {w : World} {g5 g7 : Nat} {p0 x : Rep} {w' w'' : World} (h : St w g5 g7 p0 x w') (hb : Below w'.heap.size w' w'') : St w g5 g7 p0 x w'' :=
  ⟨h.b5.below hb h.b5.lt, h.b7.below hb h.b7.lt, h.bel.trans (hb.mono h.bel.size)⟩

theorem St.drew {w : World} {g5 g7 : Nat} {p0 x : Rep} {w' : World} (h : St w g5 g7 p0 x w') : St w g5 g7 p0 x w'.drew := h.more (below_drewN (Below.refl _ _) 1)

theorem flat_get : ∀ (l : List Rep) (i j : Nat), i < l.length → j < 6 → (l.flatMap repC)[i * 6 + j]? = (repC (l.getD i zeroRep))[j]?
  | [], i, j, h, _ => absurd h (by simp)
  | p :: l, 0, j, h, hj => by
    rw [List.flatMap_cons, Nat.zero_mul, Nat.zero_add, List.getElem?_append_left (by rw [repC_len]; omega)]
    rfl
  | p :: l, i + 1, j, h, hj => by
    rw [List.flatMap_cons, List.getElem?_append_right (by rw [repC_len]; omega), repC_len, show (i + 1) * 6 + j - 6 = i * 6 + j by omega, flat_get l i j (by simpa using h) hj]
    simp

theorem flat_row {w : World} {base g n cap : Nat} {l : List Rep} (h : w.ownsRow base 37 6 (.slice (some ⟨g, 0, none⟩) n cap) n (l.flatMap repC)) (hl : l.length = n) : RepRow w (some ⟨g, 0, none⟩) g 0 n l := by
  rcases h.2 with ⟨h', _⟩ | ⟨g', cap', cur, h', _, hg, _, _, hcs, htake⟩
  · simp at h'
  · simp only [Value.slice.injEq, Option.some.injEq, Addr.mk.injEq, and_true, true_and] at h'
    obtain ⟨rfl, rfl⟩ := h'
    have hb : Blk w g 37 cur.toList := by simpa [Blk] using hg
    refine ⟨fun _ => rfl, fun _ => hb.lt, fun i hi j v hv => ?_⟩
    have hj : j < 6 := by have := (List.getElem?_eq_some_iff.1 hv).1; rw [repC_len] at this; exact this
    rw [hb.cell, Nat.zero_add, ← hv, ← flat_get l i j (by omega) hj, ← htake, List.getElem?_take, if_pos (by omega)]

/-- What stands while the law goes on. -/
structure Held (w : World) (g5 g7 : Nat) (p0 x : Rep) (a1 a3 a4 : Option Addr) (g1 g3 g4 gL n1 n3 n4 : Nat) (ps : List Rep) (ss : List ByteArray) (rs : List Rec) (W : World) : Prop where
  st : St w g5 g7 p0 x W
  r1 : RepRow W a1 g1 0 n1 ps
  r3 : Strs.Row W a3 g3 0 n3 ss
  r4 : RecRow W a4 g4 0 n4 rs
  rL : RepRow W (some ⟨gL, 0, none⟩) gL 0 (n1 + 1) (ps ++ [x])

theorem Held.more {w : World} {g5 g7 : Nat} {p0 x : Rep} {a1 a3 a4 : Option Addr} {g1 g3 g4 gL n1 n3 n4 : Nat} {ps : List Rep} {ss : List ByteArray} {rs : List Rec} {W W' : World} (h : Held w g5 g7 p0 x a1 a3 a4 g1 g3 g4 gL n1 n3 n4 ps ss rs W) (hb : Below W.heap.size W W') : Held w g5 g7 p0 x a1 a3 a4 g1 g3 g4 gL n1 n3 n4 ps ss rs W' :=
  ⟨h.st.more hb, h.r1.below hb, h.r3.below hb, h.r4.below hb, h.rL.below hb⟩

/-- A message in its variable. -/
structure MsgAt (W : World) (g : Nat) (M : List Value) (q : Rep) (nodes : Value) (gR n : Nat) (l : List Rep) (nl : List (ByteArray × Rec)) : Prop where
  b : Blk W g 67 M
  m : IsMsg M q nodes (.slice (some ⟨gR, 0, none⟩) n n)
  r : RelAt W (some ⟨gR, 0, none⟩) gR n l
  nd : NodesAt W W.heap.size nodes nl

theorem MsgAt.more {W W' : World} {g : Nat} {M : List Value} {q : Rep} {nodes : Value} {gR n : Nat} {l : List Rep} {nl : List (ByteArray × Rec)} (h : MsgAt W g M q nodes gR n l nl) (hb : Below W.heap.size W W') : MsgAt W' g M q nodes gR n l nl :=
  ⟨h.b.below hb h.b.lt, h.m, h.r.below hb, (h.nd.below hb (Nat.le_refl _)).more hb.size⟩

/-- A message laid into a new variable. -/
theorem MsgAt.laid {W : World} {M Z : List Value} {q : Rep} {nodes : Value} {gR n : Nat} {l : List Rep} {nl : List (ByteArray × Rec)} (hZ : Z.length = 61) (m : IsMsg M q nodes (.slice (some ⟨gR, 0, none⟩) n n)) (r : RelAt W (some ⟨gR, 0, none⟩) gR n l) (nd : NodesAt W W.heap.size nodes nl) :
    (W.alloc (.cells Z.toArray 67)).there W.heap.size 0 M.length ∧ Below W.heap.size W ((W.alloc (.cells Z.toArray 67)).setCells W.heap.size 0 M) ∧ MsgAt ((W.alloc (.cells Z.toArray 67)).setCells W.heap.size 0 M) W.heap.size M q nodes gR n l nl := by
  have bZ : Blk (W.alloc (.cells Z.toArray 67)) W.heap.size 67 Z := heap_alloc_new W _
  have hb : Below W.heap.size W ((W.alloc (.cells Z.toArray 67)).setCells W.heap.size 0 M) := below_setCells _ _ ((Below.refl _ _).alloc (Nat.le_refl _) _) (Nat.le_refl _)
  have bM := Blk.setCells M 0 bZ
  rw [spl_whole M Z (by rw [m.len, hZ])] at bM
  exact ⟨Blk.there bZ _ _ (by rw [m.len, hZ]; omega), hb, bM, m, r.below hb, (nd.below hb (Nat.le_refl _)).more hb.size⟩

/-- All that stands behind the two calls. -/
structure Fin (w : World) (g5 g7 : Nat) (p0 x : Rep) (gM : Nat) (nodes : Value) (nl : List (ByteArray × Rec)) (v1 v2 : Value) (l1 l2 : List (Int × Rec)) (W : World) : Prop where
  st : St w g5 g7 p0 x W
  c50 : W.cell? ⟨gM, 50, none⟩ = some nodes
  lt : gM < W.heap.size
  nd : NodesAt W W.heap.size nodes nl
  s1 : SinceAt W 0 v1 l1
  s2 : SinceAt W 0 v2 l2

theorem Fin.more {w : World} {g5 g7 : Nat} {p0 x : Rep} {gM : Nat} {nodes : Value} {nl : List (ByteArray × Rec)} {v1 v2 : Value} {l1 l2 : List (Int × Rec)} {W W' : World} (h : Fin w g5 g7 p0 x gM nodes nl v1 v2 l1 l2 W) (hb : Below W.heap.size W W') : Fin w g5 g7 p0 x gM nodes nl v1 v2 l1 l2 W' :=
  ⟨h.st.more hb, (hb.cell (p := ⟨gM, 50, none⟩) h.lt).trans h.c50, Nat.lt_of_lt_of_le h.lt hb.size, (h.nd.below hb (Nat.le_refl _)).more hb.size, h.s1.below hb (Nat.le_refl _), h.s2.below hb (Nat.le_refl _)⟩

theorem Fin.alloc {w : World} {g5 g7 : Nat} {p0 x : Rep} {gM : Nat} {nodes : Value} {nl : List (ByteArray × Rec)} {v1 v2 : Value} {l1 l2 : List (Int × Rec)} {W : World} (h : Fin w g5 g7 p0 x gM nodes nl v1 v2 l1 l2 W) (o : Obj) : Fin w g5 g7 p0 x gM nodes nl v1 v2 l1 l2 (W.alloc o) := h.more ((Below.refl _ _).alloc (Nat.le_refl _) _)

theorem updR_len (l : List (Int × Rec)) (k : Int) (v : Rec) : (updR l k v).length ≤ l.length + 1 := by
  induction l with
  | nil => simp [updR]
  | cons p l ih =>
    by_cases h : p.1 = k
    · simp [updR, h]
    · simp only [updR, h, if_false, List.length_cons]; omega
theorem tells_len (nl : List (ByteArray × Rec)) (q : Rep) (rs : List Rep) : ∀ i, (tells nl q rs i).length ≤ i + 1
  | 0 => by
    simp only [tells, tellL]
    split
    · simp
    · exact updR_len _ _ _
  | i + 1 => by
    have ih := tells_len nl q rs i
    simp only [tells, tellL]
    split
    · omega
    · have := updR_len (tells nl q rs i) ((i : Int) + 1) (rs.getD i (⟨#[]⟩, zeroRec)).2
      omega

/-- One of the two, whichever. -/
def SomeB (v : Value) : Prop := ∃ B : Bool, v = .bool B

set_option maxRecDepth 20000 in
set_option maxHeartbeats 4000000 in
theorem walk (p0 x : Rep) (ao1 ao3 ao4 : Option Addr) (b1 o1 n1 c1 b3 o3 n3 c3 b4 o4 n4 c4 : Nat) (ps : List Rep) (ss : List ByteArray) (rs : List Rec) (w : World)
    (h1 : RepRow w ao1 b1 o1 n1 ps) (h3 : Strs.Row w ao3 b3 o3 n3 ss) (h4 : RecRow w ao4 b4 o4 n4 rs) (m1 : n1 ≤ 9223372036854775807) (m3 : n3 ≤ 9223372036854775807) (m4 : n4 ≤ 9223372036854775807) (hp : ps.length = n1) (hs : ss.length = n3) :
    Calls Try.prog 7 #[.agg (repC p0).toArray, .slice ao1 n1 c1, .agg (repC x).toArray, .slice ao3 n3 c3, .slice ao4 n4 c4] w fun e w' => e = .returned (.bool true) ∧ Below w.heap.size w w' := by
  have Q0 := fun W (h1 : RepRow W ao1 b1 o1 n1 ps) (h3 : Strs.Row W ao3 b3 o3 n3 ss) (h4 : RecRow W ao4 b4 o4 n4 rs) => BytesW.bytes21 p0 x ao1 ao3 ao4 b1 o1 n1 c1 b3 o3 n3 c3 b4 o4 n4 c4 ps ss rs W h1 h3 h4 m1 m3 m4
  obtain ⟨f, s, e, i, u, t⟩ := p0
  obtain ⟨f', s', e', i', u', t'⟩ := x
  show Calls Try.prog 7 #[.agg #[.string f, .string s, .int .u64 e, .int .u64 i, .int .u64 u, .bool t], .slice ao1 n1 c1, .agg #[.string f', .string s', .int .u64 e', .int .u64 i', .int .u64 u', .bool t'], .slice ao3 n3 c3, .slice ao4 n4 c4] w _
  have hb : Below w.heap.size w ((w.alloc (.cells #[.string f, .string s, .int .u64 e, .int .u64 i, .int .u64 u, .bool t] 37)).alloc (.cells #[.string f', .string s', .int .u64 e', .int .u64 i', .int .u64 u', .bool t'] 37)) :=
    ((Below.refl _ _).alloc (Nat.le_refl _) _).alloc (by simp) _
  have S0 : St w w.heap.size (w.heap.size + 1) (f, s, e, i, u, t) (f', s', e', i', u', t') ((w.alloc (.cells #[.string f, .string s, .int .u64 e, .int .u64 i, .int .u64 u, .bool t] 37)).alloc (.cells #[.string f', .string s', .int .u64 e', .int .u64 i', .int .u64 u', .bool t'] 37)) := by
    refine ⟨(Below.heap_alloc _ _ _ (by simp)).trans (heap_alloc_new w _), ?_, hb⟩
    have := heap_alloc_new (w.alloc (.cells #[.string f, .string s, .int .u64 e, .int .u64 i, .int .u64 u, .bool t] 37)) (.cells #[.string f', .string s', .int .u64 e', .int .u64 i', .int .u64 u', .bool t'] 37)
    simpa [Blk, repC, recC] using this
  have Q1 := Q0 _ (h1.below hb) (h3.below hb) (h4.below hb)
  clear Q0 hb
  go_enter Try.func7, Try.ntmps7
  go_wp2_with fail
  refine Q1.mono ?_
  clear Q1
  rintro x w1 ⟨⟨B, rfl⟩, hb1⟩
  have S1 := S0.more hb1
  clear hb1 S0
  have HS1 : Hid (St w w.heap.size (w.heap.size + 1) (f, s, e, i, u, t) (f', s', e', i', u', t') w1) := S1
  obtain ⟨d50, d51, d52, d53, d54, d55⟩ := repCells S1.b5
  obtain ⟨d70, d71, d72, d73, d74, d75⟩ := repCells S1.b7
  clear S1
  cases B with
  | false =>
    go_wp2_with fail
    go_ret
    exact ⟨rfl, HS1.out.bel⟩
  | true =>
    by_cases q1 : 65536 < n1
    · go_wp2_with fail
      go_ret
      exact ⟨rfl, HS1.out.bel⟩
    by_cases q3 : 65536 < n3
    · go_wp2_with fail
      go_ret
      exact ⟨rfl, HS1.out.bel⟩
    by_cases q4 : 65536 < n4
    · go_wp2_with fail
      go_ret
      exact ⟨rfl, HS1.out.bel⟩
    have C16 : ∀ W, St w w.heap.size (w.heap.size + 1) (f, s, e, i, u, t) (f', s', e', i', u', t') W → Calls Try.prog 16 #[.agg #[.string f, .string s, .int .u64 e, .int .u64 i, .int .u64 u, .bool t], .slice ao1 n1 c1, .slice ao3 n3 c3, .slice ao4 n4 c4] W fun z W' => Strs.SomeInt z ∧ St w w.heap.size (w.heap.size + 1) (f, s, e, i, u, t) (f', s', e', i', u', t') W' := fun W hW =>
      (BytesW.bytes16 (f, s, e, i, u, t) ao1 ao3 ao4 b1 o1 n1 c1 b3 o3 n3 c3 b4 o4 n4 c4 ps ss rs W (h1.below hW.bel) (h3.below hW.bel) (h4.below hW.bel) (by omega) (by omega) (by omega)).mono fun z W' h => ⟨h.1, hW.more h.2⟩
    have C22 : ∀ W, St w w.heap.size (w.heap.size + 1) (f, s, e, i, u, t) (f', s', e', i', u', t') W → Calls Try.prog 22 #[.agg #[.string f', .string s', .int .u64 e', .int .u64 i', .int .u64 u', .bool t']] W fun z W' => Strs.SomeInt z ∧ St w w.heap.size (w.heap.size + 1) (f, s, e, i, u, t) (f', s', e', i', u', t') W' := fun W hW =>
      (BytesW.bytes22 (f', s', e', i', u', t') W).mono fun z W' h => ⟨h.1, hW.more h.2⟩
    have H16 : Hid (∀ W, St w w.heap.size (w.heap.size + 1) (f, s, e, i, u, t) (f', s', e', i', u', t') W → Calls Try.prog 16 #[.agg #[.string f, .string s, .int .u64 e, .int .u64 i, .int .u64 u, .bool t], .slice ao1 n1 c1, .slice ao3 n3 c3, .slice ao4 n4 c4] W fun z W' => Strs.SomeInt z ∧ St w w.heap.size (w.heap.size + 1) (f, s, e, i, u, t) (f', s', e', i', u', t') W') := C16
    have H22 : Hid (∀ W, St w w.heap.size (w.heap.size + 1) (f, s, e, i, u, t) (f', s', e', i', u', t') W → Calls Try.prog 22 #[.agg #[.string f', .string s', .int .u64 e', .int .u64 i', .int .u64 u', .bool t']] W fun z W' => Strs.SomeInt z ∧ St w w.heap.size (w.heap.size + 1) (f, s, e, i, u, t) (f', s', e', i', u', t') W') := C22
    clear C16 C22
    go_upto_region 5 with fail
    go_cut [56] from 48 to 56 (fun s56 wx => SomeB s56 ∧ Hid (St w w.heap.size (w.heap.size + 1) (f, s, e, i, u, t) (f', s', e', i', u', t') wx))
    case first =>
      go_region_with (first
        | (go_at_call 16; refine (H16.out _ (by first | exact HSb.out | exact HS1.out.drew)).mono ?_; rintro z2 w2 ⟨⟨T2, rfl⟩, S2⟩; have HSb : Hid (St w w.heap.size (w.heap.size + 1) (f, s, e, i, u, t) (f', s', e', i', u', t') w2) := S2; obtain ⟨d50, d51, d52, d53, d54, d55⟩ := repCells S2.b5; obtain ⟨d70, d71, d72, d73, d74, d75⟩ := repCells S2.b7; clear S2)
        | (go_at_call 22; refine (H22.out _ (by first | exact HSb.out | exact HS1.out.drew)).mono ?_; rintro z2 w2 ⟨⟨T2, rfl⟩, S2⟩; have HSb : Hid (St w w.heap.size (w.heap.size + 1) (f, s, e, i, u, t) (f', s', e', i', u', t') w2) := S2; obtain ⟨d50, d51, d52, d53, d54, d55⟩ := repCells S2.b5; obtain ⟨d70, d71, d72, d73, d74, d75⟩ := repCells S2.b7; clear S2))
      all_goals
        go_wp2_with fail
        go_meet
        exact ⟨⟨_, rfl⟩, HSb⟩
    case rest =>
      obtain ⟨⟨B, rfl⟩, HS2⟩ := hcut
      clear HS1 H16 H22 d50 d51 d52 d53 d54 d55 d70 d71 d72 d73 d74 d75
      cases B with
      | true =>
        go_wp2_with fail
        go_ret
        exact ⟨rfl, HS2.out.bel⟩
      | false =>
        have r1 := h1.below HS2.out.bel
        have r3 := h3.below HS2.out.bel
        have r4 := h4.below HS2.out.bel
        clear h1 h3 h4
        go_wp2_with fail
        refine (CloneW.reps17 ao1 b1 o1 n1 c1 ps _ (by omega) r1).mono ?_
        rintro y w3 ⟨a1, g1, rfl, r1, hb3⟩
        have HS3 : Hid (St w w.heap.size (w.heap.size + 1) (f, s, e, i, u, t) (f', s', e', i', u', t') w3) := HS2.out.more hb3
        have r3 := r3.below hb3
        have r4 := r4.below hb3
        clear hb3 HS2
        go_wp2_with fail
        refine (CloneW.strs11 ao3 b3 o3 n3 c3 ss _ (by omega) hs r3).mono ?_
        rintro y w4 ⟨a3, g3, rfl, r3, hb4⟩
        have HS4 : Hid (St w w.heap.size (w.heap.size + 1) (f, s, e, i, u, t) (f', s', e', i', u', t') w4) := HS3.out.more hb4
        have r1 := r1.below hb4
        have r4 := r4.below hb4
        clear hb4 HS3
        go_wp2_with fail
        refine (CloneW.recs18 ao4 b4 o4 n4 c4 rs _ (by omega) r4).mono ?_
        rintro y w5 ⟨a4, g4, rfl, r4, hb5⟩
        have HS5 : Hid (St w w.heap.size (w.heap.size + 1) (f, s, e, i, u, t) (f', s', e', i', u', t') w5) := HS4.out.more hb5
        have r1 := r1.below hb5
        have r3 := r3.below hb5
        clear hb5 HS4
        obtain ⟨i0, z, hi, hz0, hz1, hz2, hz3, hz4⟩ := info_row info37
        go_wp2_with (at_make; refine wpList_make_own _ rfl _ _ 38 rfl w5.heap.size 37 i0 z 6 Try.underlying38 hi hz0 hz1 _ _ _ (n1 + 1) rfl rfl (by omega) (by rw [hz2]; omega) (by unfold maxLen; omega) (Nat.le_refl _) ?_; intro w6 hown6 hgrow6)
        have hb6 : Below w5.heap.size w5 w6 := (Below.refl _ _).grown hgrow6 (Nat.le_refl _) (by simp)
        clear hgrow6
        go_loopw [11, 12] (fun s11 s12 wr => ∃ k : Nat, k ≤ n1 ∧ s12 = .int .i64 k ∧ s11 = .slice (some ⟨w5.heap.size, 0, none⟩) k (n1 + 1) ∧ Hid (wr.ownsRow w5.heap.size 37 6 (.slice (some ⟨w5.heap.size, 0, none⟩) k (n1 + 1)) k ((ps.take k).flatMap repC) ∧ Below w5.heap.size w5 wr)) (fun _ s12 _ => n1 - (intOf s12).toNat)
        case atStart => exact ⟨0, Nat.zero_le _, rfl, rfl, by simpa using hown6, hb6⟩
        case round =>
          clear hown6 hb6
          obtain ⟨k, hk, rfl, rfl, HH⟩ := hrel
          by_cases hlt : k < n1
          · obtain rfl := r1.at_ (by omega)
            have hc := (r1.below HH.out.2).cell k hlt
            rw [Nat.zero_add] at hc
            have HI37 : Hid ((Try.prog.info? 37).map (·.size) = some 6) := BytesW.size37
            have hx : (ps.take (k + 1)).flatMap repC = (ps.take k).flatMap repC ++ repC (ps.getD k zeroRep) := by
              rw [List.take_succ_eq_append_getElem (by omega), List.flatMap_append]
              simp [List.getD, List.getElem?_eq_getElem (show k < ps.length by omega)]
            have HX : Hid ((ps.take (k + 1)).flatMap repC = (ps.take k).flatMap repC ++ repC (ps.getD k zeroRep)) := hx
            have HC : Hid (wr.rangeAt g1 (k * 6) (repC (ps.getD k zeroRep))) := hc
            clear hx hc
            generalize ps.getD k zeroRep = p at *
            obtain ⟨f2, s2, e2, i2, u2, t2⟩ := p
            have HO : Hid (∀ v ∈ [Value.string f2, .string s2, .int .u64 e2, .int .u64 i2, .int .u64 u2, .bool t2], v.oneCell' = true) := repC_one (f2, s2, e2, i2, u2, t2)
            have hown := HH.out.1
            have hbel := HH.out.2
            generalize (ps.take k).flatMap repC = xs at *
            have HOwn : Hid ((wr.alloc (.cells #[.string f2, .string s2, .int .u64 e2, .int .u64 i2, .int .u64 u2, .bool t2] 37)).ownsRow w5.heap.size 37 6 (.slice (some ⟨w5.heap.size, 0, none⟩) k (n1 + 1)) k xs) := hown.alloc _
            have HNews : Hid (∀ j v, ([Value.string f2, .string s2, .int .u64 e2, .int .u64 i2, .int .u64 u2, .bool t2] : List Value)[j]? = some v → (wr.alloc (.cells #[.string f2, .string s2, .int .u64 e2, .int .u64 i2, .int .u64 u2, .bool t2] 37)).cell? ((⟨wr.heap.size, 0, none⟩ : Addr).add j) = some v) := World.news_of_block (heap_alloc_new wr _)
            have HBel : Hid (Below w5.heap.size w5 (wr.alloc (.cells #[.string f2, .string s2, .int .u64 e2, .int .u64 i2, .int .u64 u2, .bool t2] 37))) := hbel.alloc hbel.size _
            clear hown hbel HH
            go_wp2_with (first | refine wpList_load_mid rfl 37 (.tmp 76) rfl g1 (k * 6) rfl [.string f2, .string s2, .int .u64 e2, .int .u64 i2, .int .u64 u2, .bool t2] _ (by exact HC.out) Try.underlying37 rfl (by exact HI37.out) ?_ | (refine wpList_append_fits _ rfl (.tmp 73) (.tmp 78) 38 rfl w5.heap.size 37 i0 6 Try.underlying38 hi hz1 w5.heap.size k (n1 + 1) xs rfl HOwn.out ⟨wr.heap.size, 0, none⟩ 1 1 [.string f2, .string s2, .int .u64 e2, .int .u64 i2, .int .u64 u2, .bool t2] rfl rfl HNews.out HO.out (by omega) ?_; intro w7 hown7 hgrow7; have H7 : Hid (w7.ownsRow w5.heap.size 37 6 (.slice (some ⟨w5.heap.size, 0, none⟩) (k + 1) (n1 + 1)) (k + 1) ((ps.take (k + 1)).flatMap repC) ∧ Below w5.heap.size w5 w7) := ⟨by rw [HX.out]; exact hown7, HBel.out.grown hgrow7 HBel.out.size (by simp)⟩; clear hown7 hgrow7))
            go_roundw
            case rel => exact ⟨k + 1, by omega, by go_num, rfl, H7⟩
            case measure => simp [intOf]; omega
          · obtain rfl : n1 = k := by omega
            have hown := HH.out.1
            have hbel := HH.out.2
            rw [List.take_of_length_le (by omega)] at hown
            have st := HS5.out.more hbel
            obtain ⟨d70, d71, d72, d73, d74, d75⟩ := repCells st.b7
            have HO : Hid (∀ v ∈ [Value.string f', .string s', .int .u64 e', .int .u64 i', .int .u64 u', .bool t'], v.oneCell' = true) := repC_one (f', s', e', i', u', t')
            have HOwn : Hid ((wr.alloc (.cells #[.string f', .string s', .int .u64 e', .int .u64 i', .int .u64 u', .bool t'] 37)).ownsRow w5.heap.size 37 6 (.slice (some ⟨w5.heap.size, 0, none⟩) n1 (n1 + 1)) n1 (ps.flatMap repC)) := hown.alloc _
            have HNews : Hid (∀ j v, ([Value.string f', .string s', .int .u64 e', .int .u64 i', .int .u64 u', .bool t'] : List Value)[j]? = some v → (wr.alloc (.cells #[.string f', .string s', .int .u64 e', .int .u64 i', .int .u64 u', .bool t'] 37)).cell? ((⟨wr.heap.size, 0, none⟩ : Addr).add j) = some v) := World.news_of_block (heap_alloc_new wr _)
            have HBel : Hid (Below w5.heap.size w5 (wr.alloc (.cells #[.string f', .string s', .int .u64 e', .int .u64 i', .int .u64 u', .bool t'] 37))) := hbel.alloc hbel.size _
            have HH5 : Hid (RepRow w5 a1 g1 0 n1 ps ∧ Strs.Row w5 a3 g3 0 n3 ss ∧ RecRow w5 a4 g4 0 n4 rs) := ⟨r1, r3, r4⟩
            clear hown hbel HH st r1 r3 r4
            go_upto_region 16 with (refine wpList_append_fits _ rfl (.tmp 80) (.tmp 82) 38 rfl w5.heap.size 37 i0 6 Try.underlying38 hi hz1 w5.heap.size n1 (n1 + 1) (ps.flatMap repC) rfl HOwn.out ⟨wr.heap.size, 0, none⟩ 1 1 [.string f', .string s', .int .u64 e', .int .u64 i', .int .u64 u', .bool t'] rfl rfl HNews.out HO.out (by omega) ?_; intro w8 hown8 hgrow8)
            have hb8 : Below w5.heap.size w5 w8 := HBel.out.grown hgrow8 HBel.out.size (by simp)
            have hown8' : w8.ownsRow w5.heap.size 37 6 (.slice (some ⟨w5.heap.size, 0, none⟩) (n1 + 1) (n1 + 1)) (n1 + 1) ((ps ++ [(f', s', e', i', u', t')]).flatMap repC) := by
              rw [List.flatMap_append]
              simpa [repC, recC] using hown8
            have HD8 : Hid (Held w w.heap.size (w.heap.size + 1) (f, s, e, i, u, t) (f', s', e', i', u', t') a1 a3 a4 g1 g3 g4 w5.heap.size n1 n3 n4 ps ss rs w8) :=
              ⟨HS5.out.more hb8, HH5.out.1.below hb8, HH5.out.2.1.below hb8, HH5.out.2.2.below hb8, flat_row hown8' (by simp; omega)⟩
            clear HS5 HH5 hown8 hgrow8 hown8' HBel HNews HOwn d70 d71 d72 d73 d74 d75 hb8 HO hi hz0 hz1 hz2 hz3 hz4
            generalize w5.heap.size = gL at *
            obtain ⟨d50, d51, d52, d53, d54, d55⟩ := repCells HD8.out.st.b5
            go_wp2_with fail
            refine (MakeW.msg19 (f, s, e, i, u, t) a1 a3 a4 g1 0 n1 n1 g3 0 n3 n3 g4 0 n4 n4 ps ss rs _ HD8.out.r1 HD8.out.r3 HD8.out.r4 (by omega) (by omega) (by omega) hp).mono ?_
            rintro y w9 ⟨M, nodes, gR, rfl, hM, hR, hN, hb9⟩
            have hd9 := HD8.out.more hb9
            obtain ⟨Z, hZ1, hZ2, hZ3, hZ4⟩ := MakeW.zero67_of
            have HZ : Hid (∀ w, (Instr.alloc 67 true (.tuple #[])).run Try.prog w = .ok (.pointer (some ⟨w.heap.size, 0, none⟩)) (w.alloc (.cells Z.toArray 67))) := hZ4
            obtain ⟨ht, hb10, hm10⟩ := MsgAt.laid hZ1 hM hR hN
            have hd10 := hd9.more hb10
            have HT : Hid ((w9.alloc (.cells Z.toArray 67)).there w9.heap.size 0 M.length) := ht
            have HO : Hid (∀ v ∈ M, v.oneCell' = true) := hM.one
            have HI : Hid ((Try.prog.info? 67).map (·.size) = some M.length) := by unfold Hid; rw [size67, hM.len]
            have H10 : Hid (Held w w.heap.size (w.heap.size + 1) (f, s, e, i, u, t) (f', s', e', i', u', t') a1 a3 a4 g1 g3 g4 gL n1 n3 n4 ps ss rs ((w9.alloc (.cells Z.toArray 67)).setCells w9.heap.size 0 M) ∧ MsgAt ((w9.alloc (.cells Z.toArray 67)).setCells w9.heap.size 0 M) w9.heap.size M (f, s, e, i, u, t) nodes gR n1 ps (nodesL ss rs (min n3 n4))) := ⟨hd10, hm10⟩
            clear ht hb10 hm10 hd10 hd9 hM hR hN hb9 HD8 d50 d51 d52 d53 d54 d55 hZ2 hZ3 hZ4
            go_upto_region 17 with (first | refine wpList_alloc_big rfl 67 rfl Z HZ.out ?_ | refine wpList_store_midL rfl 67 (.tmp 13) (.tmp 88) rfl w9.heap.size 0 M rfl rfl HT.out HI.out HO.out ?_)
            clear HT HO HI
            generalize ((w9.alloc (.cells Z.toArray 67)).setCells w9.heap.size 0 M) = w10 at *
            generalize w9.heap.size = gM at *
            obtain ⟨d50, d51, d52, d53, d54, d55⟩ := repCells H10.out.1.st.b5
            go_wp2_with fail
            refine (MakeW.msg19 (f, s, e, i, u, t) (some ⟨gL, 0, none⟩) a3 a4 gL 0 (n1 + 1) (n1 + 1) g3 0 n3 n3 g4 0 n4 n4 (ps ++ [(f', s', e', i', u', t')]) ss rs _ H10.out.1.rL H10.out.1.r3 H10.out.1.r4 (by omega) (by omega) (by omega) (by simp; omega)).mono ?_
            rintro y w11 ⟨M', nodes', gR', rfl, hM, hR, hN, hb11⟩
            have hd11 := H10.out.1.more hb11
            have hm11 := H10.out.2.more hb11
            obtain ⟨ht, hb12, hm12⟩ := MsgAt.laid hZ1 hM hR hN
            have HT : Hid ((w11.alloc (.cells Z.toArray 67)).there w11.heap.size 0 M'.length) := ht
            have HO : Hid (∀ v ∈ M', v.oneCell' = true) := hM.one
            have HI : Hid ((Try.prog.info? 67).map (·.size) = some M'.length) := by unfold Hid; rw [size67, hM.len]
            have H12 : Hid (Held w w.heap.size (w.heap.size + 1) (f, s, e, i, u, t) (f', s', e', i', u', t') a1 a3 a4 g1 g3 g4 gL n1 n3 n4 ps ss rs ((w11.alloc (.cells Z.toArray 67)).setCells w11.heap.size 0 M') ∧ MsgAt ((w11.alloc (.cells Z.toArray 67)).setCells w11.heap.size 0 M') gM M (f, s, e, i, u, t) nodes gR n1 ps (nodesL ss rs (min n3 n4)) ∧ MsgAt ((w11.alloc (.cells Z.toArray 67)).setCells w11.heap.size 0 M') w11.heap.size M' (f, s, e, i, u, t) nodes' gR' (n1 + 1) (ps ++ [(f', s', e', i', u', t')]) (nodesL ss rs (min n3 n4))) := ⟨hd11.more hb12, hm11.more hb12, hm12⟩
            clear ht hb12 hm12 hd11 hm11 hM hR hN hb11 H10 d50 d51 d52 d53 d54 d55
            go_upto_region 18 with (first | refine wpList_alloc_big rfl 67 rfl Z HZ.out ?_ | refine wpList_store_midL rfl 67 (.tmp 14) (.tmp 93) rfl w11.heap.size 0 M' rfl rfl HT.out HI.out HO.out ?_)
            clear HT HO HI HZ
            generalize ((w11.alloc (.cells Z.toArray 67)).setCells w11.heap.size 0 M') = w12 at *
            generalize w11.heap.size = gM' at *
            have HB : Hid (w12.heap[gM]? = some (.cells M.toArray 67 (0, 0))) := H12.out.2.1.b
            have HI : Hid ((Try.prog.info? 67).map (·.size) = some M.toArray.size) := by unfold Hid; rw [size67]; simp [H12.out.2.1.m.len]
            go_wp2_with (refine wpList_load_row rfl 67 (.tmp 13) rfl gM rfl 67 M.toArray (0, 0) _ HB.out Try.underlying67 rfl HI.out ?_)
            refine (since20 M (f, s, e, i, u, t) nodes (some ⟨gR, 0, none⟩) gR n1 n1 ps (nodesL ss rs (min n3 n4)) _ H12.out.2.1.m H12.out.2.1.r H12.out.2.1.nd (by omega)).mono ?_
            rintro y w13 ⟨v1, rfl, hs13, hb13⟩
            have H13 : Hid (Held w w.heap.size (w.heap.size + 1) (f, s, e, i, u, t) (f', s', e', i', u', t') a1 a3 a4 g1 g3 g4 gL n1 n3 n4 ps ss rs w13 ∧ MsgAt w13 gM' M' (f, s, e, i, u, t) nodes' gR' (n1 + 1) (ps ++ [(f', s', e', i', u', t')]) (nodesL ss rs (min n3 n4))) := ⟨H12.out.1.more hb13, H12.out.2.2.more hb13⟩
            clear hb13 H12 HB HI
            have HB : Hid (w13.heap[gM']? = some (.cells M'.toArray 67 (0, 0))) := H13.out.2.b
            have HI : Hid ((Try.prog.info? 67).map (·.size) = some M'.toArray.size) := by unfold Hid; rw [size67]; simp [H13.out.2.m.len]
            go_wp2_with (refine wpList_load_row rfl 67 (.tmp 14) rfl gM' rfl 67 M'.toArray (0, 0) _ HB.out Try.underlying67 rfl HI.out ?_)
            refine (since20 M' (f, s, e, i, u, t) nodes' (some ⟨gR', 0, none⟩) gR' (n1 + 1) (n1 + 1) (ps ++ [(f', s', e', i', u', t')]) (nodesL ss rs (min n3 n4)) _ H13.out.2.m H13.out.2.r H13.out.2.nd (by omega)).mono ?_
            rintro y w14 ⟨v2, rfl, hs14, hb14⟩
            have H14 : Hid (Held w w.heap.size (w.heap.size + 1) (f, s, e, i, u, t) (f', s', e', i', u', t') a1 a3 a4 g1 g3 g4 gL n1 n3 n4 ps ss rs w14 ∧ MsgAt w14 gM' M' (f, s, e, i, u, t) nodes' gR' (n1 + 1) (ps ++ [(f', s', e', i', u', t')]) (nodesL ss rs (min n3 n4)) ∧ SinceAt w14 0 v1 (tells (nodesL ss rs (min n3 n4)) (f, s, e, i, u, t) ps n1) ∧ SinceAt w14 0 v2 (tells (nodesL ss rs (min n3 n4)) (f, s, e, i, u, t) (ps ++ [(f', s', e', i', u', t')]) (n1 + 1))) :=
              ⟨H13.out.1.more hb14, H13.out.2.more hb14, (hs13.below hb14 (Nat.le_refl _)).less (Nat.zero_le _), hs14.less (Nat.zero_le _)⟩
            have F0 : Hid (Fin w w.heap.size (w.heap.size + 1) (f, s, e, i, u, t) (f', s', e', i', u', t') gM' nodes' (nodesL ss rs (min n3 n4)) v1 v2 (tells (nodesL ss rs (min n3 n4)) (f, s, e, i, u, t) ps n1) (tells (nodesL ss rs (min n3 n4)) (f, s, e, i, u, t) (ps ++ [(f', s', e', i', u', t')]) (n1 + 1)) w14) :=
              ⟨H14.out.1.st, by rw [H14.out.2.1.b.cell]; exact H14.out.2.1.m.nodes, H14.out.2.1.b.lt, H14.out.2.1.nd, H14.out.2.2.1, H14.out.2.2.2⟩
            clear hs13 hs14 hb14 H13 HB HI H14
            generalize nodesL ss rs (min n3 n4) = nl at *
            have E1 := more_old nl (f, s, e, i, u, t) (f', s', e', i', u', t') ps
            have E2 := more_new nl (f, s, e, i, u, t) (f', s', e', i', u', t') ps
            have E3 := more_len nl (f, s, e, i, u, t) (f', s', e', i', u', t') ps
            have E4 := tells_len nl (f, s, e, i, u, t) ps n1
            rw [hp] at E1 E2 E3
            generalize tells nl (f, s, e, i, u, t) ps n1 = l1 at *
            generalize tells nl (f, s, e, i, u, t) (ps ++ [(f', s', e', i', u', t')]) (n1 + 1) = l2 at *
            have HE : Hid ((∀ k : Int, k ≤ n1 → lookR l2 k = lookR l1 k) ∧ (lookR l2 ((n1 : Int) + 1) = if req (s', e', i', u', t') (held nl f') = true then none else some (s', e', i', u', t')) ∧ (l2.length = if req (s', e', i', u', t') (held nl f') = true then l1.length else l1.length + 1) ∧ l1.length ≤ n1 + 1) := ⟨E1, E2, E3, E4⟩
            clear E1 E2 E3 E4
            go_wp2_with fail
            go_loopw [18] (fun s18 wr => ∃ k : Nat, k ≤ n1 + 1 ∧ s18 = .int .i64 k ∧ Hid (Fin w w.heap.size (w.heap.size + 1) (f, s, e, i, u, t) (f', s', e', i', u', t') gM' nodes' nl v1 v2 l1 l2 wr)) (fun s18 _ => n1 + 1 - (intOf s18).toNat)
            case atStart => exact ⟨0, Nat.zero_le _, rfl, F0⟩
            case round =>
              clear F0
              obtain ⟨k, hk, rfl, HH⟩ := hrel
              by_cases hlt : k ≤ n1
              · have E := HE.out.1 (k : Int) (by omega)
                have EH : held l2 (k : Int) = held l1 (k : Int) := by unfold held; rw [E]
                have hk1 := HH.out.s1.look (k : Int)
                have hk2 := fun o => (HH.out.alloc o).s2.look (k : Int)
                simp only [EH, E] at hk2
                generalize held l1 (k : Int) = R at *
                generalize (lookR l1 (k : Int)).isSome = B at *
                obtain ⟨ra, rb, rc, rd, re⟩ := R
                have k1 : (Instr.lookup 69 v1 (.int .u64 (k : Int)) true).run Try.prog wr = .ok (.tuple #[.agg #[.string ra, .int .u64 rb, .int .u64 rc, .int .u64 rd, .bool re], .bool B]) wr := hk1
                have k2 : (Instr.lookup 69 v2 (.int .u64 (k : Int)) true).run Try.prog (wr.alloc (.cells #[.string ra, .int .u64 rb, .int .u64 rc, .int .u64 rd, .bool re] 52)) = .ok (.tuple #[.agg #[.string ra, .int .u64 rb, .int .u64 rc, .int .u64 rd, .bool re], .bool B]) (wr.alloc (.cells #[.string ra, .int .u64 rb, .int .u64 rc, .int .u64 rd, .bool re] 52)) := hk2 _
                have FF : Hid (Fin w w.heap.size (w.heap.size + 1) (f, s, e, i, u, t) (f', s', e', i', u', t') gM' nodes' nl v1 v2 l1 l2 ((wr.alloc (.cells #[.string ra, .int .u64 rb, .int .u64 rc, .int .u64 rd, .bool re] 52)).alloc (.cells #[.string ra, .int .u64 rb, .int .u64 rc, .int .u64 rd, .bool re] 52))) := (HH.out.alloc _).alloc _
                clear hk1 hk2 E EH
                cases B with
                | false =>
                  go_wp2_with fail
                  go_roundw
                  case rel => exact ⟨k + 1, by omega, by go_num, FF⟩
                  case measure => simp [intOf]; omega
                | true =>
                  go_wp2_with fail
                  refine (RecW.eq23 (ra, rb, rc, rd, re) (ra, rb, rc, rd, re) _).mono ?_
                  rintro y w15 ⟨rfl, hb15⟩
                  rw [req_self]
                  have FF2 : Hid (Fin w w.heap.size (w.heap.size + 1) (f, s, e, i, u, t) (f', s', e', i', u', t') gM' nodes' nl v1 v2 l1 l2 w15) := FF.out.more hb15
                  clear hb15
                  go_wp2_with fail
                  go_roundw
                  case rel => exact ⟨k + 1, by omega, by go_num, FF2⟩
                  case measure => simp [intOf]; omega
              · obtain rfl : k = n1 + 1 := by omega
                have hc50 := HH.out.c50
                have hlk := HH.out.nd.look f'
                obtain ⟨told, HTold⟩ : ∃ b, Hid (b = !req (s', e', i', u', t') (held nl f')) := ⟨_, rfl⟩
                generalize HRR : held nl f' = R at *
                obtain ⟨ra, rb, rc, rd, re⟩ := R
                have hlk' : (Instr.lookup 62 nodes' (.string f') false).run Try.prog wr = .ok (.agg #[.string ra, .int .u64 rb, .int .u64 rc, .int .u64 rd, .bool re]) wr := hlk
                obtain ⟨d70, d71, d72, d73, d74, d75⟩ := repCells HH.out.st.b7
                have F1 : Hid (Fin w w.heap.size (w.heap.size + 1) (f, s, e, i, u, t) (f', s', e', i', u', t') gM' nodes' nl v1 v2 l1 l2 (wr.alloc (.cells #[.string ra, .int .u64 rb, .int .u64 rc, .int .u64 rd, .bool re] 52))) := HH.out.alloc _
                clear hlk HH
                go_upto_region 31 with fail
                have bT : Blk (wr.alloc (.cells #[.string ra, .int .u64 rb, .int .u64 rc, .int .u64 rd, .bool re] 52)) wr.heap.size 52 (recC (ra, rb, rc, rd, re)) := heap_alloc_new wr _
                clear d70 d71 d72 d73 d74 d75 hlk' hc50
                generalize (wr.alloc (.cells #[.string ra, .int .u64 rb, .int .u64 rc, .int .u64 rd, .bool re] 52)) = w16 at *
                generalize wr.heap.size = gT at *
                have HT16 : Hid (Fin w w.heap.size (w.heap.size + 1) (f, s, e, i, u, t) (f', s', e', i', u', t') gM' nodes' nl v1 v2 l1 l2 w16 ∧ Blk w16 gT 52 (recC (ra, rb, rc, rd, re))) := ⟨F1.out, bT⟩
                obtain ⟨d70, d71, d72, d73, d74, d75⟩ := repCells F1.out.st.b7
                obtain ⟨t0, t1, t2, t3, t4⟩ := recCells bT
                clear bT F1
                go_cut [24] from 135 to 140 (fun s24 wx => s24 = .bool told ∧ Hid (Fin w w.heap.size (w.heap.size + 1) (f, s, e, i, u, t) (f', s', e', i', u', t') gM' nodes' nl v1 v2 l1 l2 wx))
                case first =>
                  go_region_with (first
                    | (go_at_call 24; refine (RecW.rec24 s' e' i' u' t' _).mono ?_; rintro y w17 ⟨rfl, hb17⟩; have b17 : Below w16.heap.size w16 w17 := (below_drewN (Below.refl _ _) 1).trans hb17; have HT17 : Hid (Fin w w.heap.size (w.heap.size + 1) (f, s, e, i, u, t) (f', s', e', i', u', t') gM' nodes' nl v1 v2 l1 l2 w17) := HT16.out.1.more b17; obtain ⟨t0, t1, t2, t3, t4⟩ := recCells (HT16.out.2.below b17 HT16.out.2.lt); clear hb17 b17)
                    | (go_at_call 23; refine (RecW.eq23 (s', e', i', u', t') (ra, rb, rc, rd, re) _).mono ?_; rintro y w18 ⟨rfl, hb18⟩; have HF18 : Hid (Fin w w.heap.size (w.heap.size + 1) (f, s, e, i, u, t) (f', s', e', i', u', t') gM' nodes' nl v1 v2 l1 l2 w18) := HT17.out.more hb18; clear hb18))
                  all_goals
                    go_wp2_with fail
                    go_meet
                    exact ⟨by rw [HTold.out], HF18⟩
                case rest =>
                  obtain ⟨rfl, HF⟩ := hcut
                  clear HT16 d70 d71 d72 d73 d74 d75 t0 t1 t2 t3 t4
                  have ⟨_, E2, E3, E4⟩ := HE.out
                  have hlk := HF.out.s2.look ((n1 : Int) + 1)
                  have l4 : (l1.length : Int) ≤ 65537 := by omega
                  cases told with
                  | true =>
                    have hr : req (s', e', i', u', t') (ra, rb, rc, rd, re) = false := by
                      have := HTold.out
                      cases h : req (s', e', i', u', t') (ra, rb, rc, rd, re)
                      · rfl
                      · rw [h] at this; cases this
                    rw [hr] at E2 E3
                    simp only [Bool.false_eq_true, if_false] at E2 E3
                    have eh : held l2 ((n1 : Int) + 1) = (s', e', i', u', t') := by unfold held; rw [E2]; rfl
                    rw [eh, E2] at hlk
                    have k2 : (Instr.lookup 69 v2 (.int .u64 ((n1 : Int) + 1)) true).run Try.prog wc = .ok (.tuple #[.agg #[.string s', .int .u64 e', .int .u64 i', .int .u64 u', .bool t'], .bool true]) wc := hlk
                    have FA : Hid (Fin w w.heap.size (w.heap.size + 1) (f, s, e, i, u, t) (f', s', e', i', u', t') gM' nodes' nl v1 v2 l1 l2 (wc.alloc (.cells #[.string s', .int .u64 e', .int .u64 i', .int .u64 u', .bool t'] 52))) := HF.out.alloc _
                    clear hlk eh E2 HTold HE hr
                    go_upto_region 35 with fail
                    have bT : Blk (wc.alloc (.cells #[.string s', .int .u64 e', .int .u64 i', .int .u64 u', .bool t'] 52)) wc.heap.size 52 (recC (s', e', i', u', t')) := heap_alloc_new wc _
                    clear k2 HF
                    generalize (wc.alloc (.cells #[.string s', .int .u64 e', .int .u64 i', .int .u64 u', .bool t'] 52)) = w20 at *
                    generalize wc.heap.size = gU at *
                    have HT20 : Hid (Fin w w.heap.size (w.heap.size + 1) (f, s, e, i, u, t) (f', s', e', i', u', t') gM' nodes' nl v1 v2 l1 l2 w20 ∧ Blk w20 gU 52 (recC (s', e', i', u', t'))) := ⟨FA.out, bT⟩
                    obtain ⟨d70, d71, d72, d73, d74, d75⟩ := repCells FA.out.st.b7
                    obtain ⟨t0, t1, t2, t3, t4⟩ := recCells bT
                    have hself := req_self (s', e', i', u', t')
                    clear bT FA
                    go_cut [160] from 152 to 159 (fun s160 wx => s160 = .bool false ∧ Hid (Fin w w.heap.size (w.heap.size + 1) (f, s, e, i, u, t) (f', s', e', i', u', t') gM' nodes' nl v1 v2 l1 l2 wx))
                    case first =>
                      go_region_with (first
                        | (go_at_call 24; refine (RecW.rec24 s' e' i' u' t' _).mono ?_; rintro y w17 ⟨rfl, hb17⟩; have b17 : Below w20.heap.size w20 w17 := (below_drewN (Below.refl _ _) 1).trans hb17; have HT17 : Hid (Fin w w.heap.size (w.heap.size + 1) (f, s, e, i, u, t) (f', s', e', i', u', t') gM' nodes' nl v1 v2 l1 l2 w17) := HT20.out.1.more b17; obtain ⟨t0, t1, t2, t3, t4⟩ := recCells (HT20.out.2.below b17 HT20.out.2.lt); clear hb17 b17)
                        | (go_at_call 23; refine (RecW.eq23 (s', e', i', u', t') (s', e', i', u', t') _).mono ?_; rintro y w18 ⟨rfl, hb18⟩; rw [hself]; have HF18 : Hid (Fin w w.heap.size (w.heap.size + 1) (f, s, e, i, u, t) (f', s', e', i', u', t') gM' nodes' nl v1 v2 l1 l2 w18) := HT17.out.more hb18; clear hb18))
                      all_goals
                        go_wp2_with fail
                        go_meet
                        exact ⟨rfl, HF18⟩
                    case rest =>
                      obtain ⟨rfl, HG⟩ := hcut
                      clear HT20 d70 d71 d72 d73 d74 d75 t0 t1 t2 t3 t4
                      have len1 := HG.out.s1.len
                      have len2 := HG.out.s2.len
                      rw [E3] at len2
                      go_wp2_with fail
                      go_ret
                      exact ⟨by first | rfl | simp, HG.out.st.bel⟩
                  | false =>
                    have hr : req (s', e', i', u', t') (ra, rb, rc, rd, re) = true := by
                      have := HTold.out
                      cases h : req (s', e', i', u', t') (ra, rb, rc, rd, re)
                      · rw [h] at this; cases this
                      · rfl
                    rw [hr] at E2 E3
                    simp only [if_true] at E2 E3
                    have eh : held l2 ((n1 : Int) + 1) = zeroRec := by unfold held; rw [E2]; rfl
                    rw [eh, E2] at hlk
                    have k2 : (Instr.lookup 69 v2 (.int .u64 ((n1 : Int) + 1)) true).run Try.prog wc = .ok (.tuple #[.agg #[.string ⟨#[]⟩, .int .u64 0, .int .u64 0, .int .u64 0, .bool false], .bool false]) wc := hlk
                    have FA : Hid (Fin w w.heap.size (w.heap.size + 1) (f, s, e, i, u, t) (f', s', e', i', u', t') gM' nodes' nl v1 v2 l1 l2 (wc.alloc (.cells #[.string ⟨#[]⟩, .int .u64 0, .int .u64 0, .int .u64 0, .bool false] 52))) := HF.out.alloc _
                    clear hlk eh E2 HTold HE hr
                    go_upto_region 35 with fail
                    clear k2 HF
                    generalize (wc.alloc (.cells #[.string ⟨#[]⟩, .int .u64 0, .int .u64 0, .int .u64 0, .bool false] 52)) = w20 at *
                    go_quiet (fail)
                    have FB := FA.out.more (below_drewN (Below.refl _ _) nq)
                    have len1 := FB.s1.len
                    have len2 := FB.s2.len
                    rw [E3] at len2
                    have HB := FB.st.bel
                    clear FB
                    go_wp2_with fail
                    go_ret
                    exact ⟨by first | rfl | simp, HB⟩

end Go.Proofs.Qxb6001298a.Append
