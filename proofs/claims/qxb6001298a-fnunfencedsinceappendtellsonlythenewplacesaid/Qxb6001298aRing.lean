/-
  THE WALKS of ringPoints, ringOrder's visit, ringOrder, ZZringOrder.
-/
import Derived.Test.Qxb6001298aLabels
import Derived.Test.Qxb6001298aPlain
import Derived.BigQuiet
import Derived.Deep.QuietTactic
import Derived.Deep.RegionLaw
import Derived.Deep.AppendLies
import Derived.WalkSmall
namespace Go.Proofs.Qxb6001298a.Ring
open Go.RowKit
open Plain
set_option linter.unusedVariables false

set_option maxHeartbeats 400000 in
theorem points (n : Nat) (w : World) (hn : 2 ≤ n) (hn' : n ≤ 1048576) :
    Calls Try.prog 31 #[.int .i64 n] w fun e w' => e = .returned (.tuple #[.int .i64 (pts n), .int .i64 (spr n)]) ∧ w' = w := by
  by_cases h4 : n = 4
  · subst h4
    go_enter Try.func31, Try.ntmps31
    go_wp2_with fail
    go_ret2
    exact ⟨rfl, rfl⟩
  · have hb : ((n : Int) - 1 == 3) = false := beq_eq_false_iff_ne.2 (by omega)
    have HP : Hid ((pts n : Int) = (n : Int) - 1 + ((n : Int) - 1) % 2) := by unfold Hid pts; rw [if_neg h4]; omega
    have HS : Hid (spr n = 1) := by unfold Hid spr; rw [if_neg h4]
    go_enter Try.func31, Try.ntmps31
    go_wp2_with fail
    go_ret2
    rw [HP.out, HS.out]
    exact ⟨rfl, rfl⟩

/-- The state in which 'visit' is called: B: the box of members; B + 1, B + 2: points and spread; B + 4: the variable order. -/
structure Inv (B b off cap n N s : Nat) (ss : List ByteArray) (xs : List Nat) (w : World) : Prop where
  mem : w.cell? ⟨B, 0, none⟩ = some (.slice (some ⟨b, off, none⟩) n cap)
  pts : w.cell? ⟨B + 1, 0, none⟩ = some (.int .i64 N)
  spr : w.cell? ⟨B + 2, 0, none⟩ = some (.int .i64 s)
  strs : ∀ i, i < n → w.cell? ⟨b, off + i, none⟩ = some (.string (ss.getD i ByteArray.empty))
  ord : ∃ v, Blk w (B + 4) 22 [v] ∧ w.ownsRow (B + 3) 9 1 v xs.length (xs.map (fun i => Value.string (ss.getD i ByteArray.empty))) ∧ v.ownBlock ≠ some (B + 4)

theorem Inv.drewN {B b off cap n N s : Nat} {ss : List ByteArray} {xs : List Nat} {w : World} (h : Inv B b off cap n N s ss xs w) (k : Nat) : Inv B b off cap n N s ss xs (w.drewN k) :=
  ⟨h.mem, h.pts, h.spr, h.strs, h.ord⟩

set_option maxHeartbeats 1000000 in
theorem visit_none (B b off cap n N s r : Nat) (q : Int) (ss : List ByteArray) (xs : List Nat) (w : World) (hI : Inv B b off cap n N s ss xs w)
    (hN : 2 ≤ N) (hN' : N ≤ 1048576) (hs1 : 1 ≤ s) (hs2 : s ≤ 2) (hn' : n ≤ 1048576) (hq : -1048576 ≤ q) (hq' : q ≤ 4194304) (hr : r < N)
    (hres : Hid ((q.tmod (N : Int) + (N : Int)).tmod (N : Int) = (r : Int))) (hsel : Hid (¬ (r % s = 0 ∧ 1 + r / s < n))) :
    Calls Try.prog 32 #[.int .i64 q, .pointer (some ⟨B + 1, 0, none⟩), .pointer (some ⟨B + 2, 0, none⟩), .pointer (some ⟨B, 0, none⟩), .pointer (some ⟨B + 4, 0, none⟩)] w fun e w' =>
      e = .returned (.tuple #[]) ∧ Inv B b off cap n N s ss xs w' ∧ Below B w w' := by
  have c1 := hI.pts
  have c2 := hI.spr
  have c3 := hI.mem
  have d1 : -(N : Int) < q.tmod (N : Int) := by have := Int.lt_tmod_of_pos q (show (0 : Int) < N by omega); omega
  have d2 : q.tmod (N : Int) < (N : Int) := Int.tmod_lt_of_pos q (by omega)
  have e1 : (q.tmod (N : Int) + (N : Int)) % (N : Int) = (r : Int) := by rw [← Int.tmod_eq_emod_of_nonneg (by omega)]; exact hres.out
  obtain ⟨dq, HDQ⟩ : ∃ x, Hid (x = r / s) := ⟨_, rfl⟩
  obtain ⟨tq, HTQ⟩ : ∃ x, Hid (x = r % s) := ⟨_, rfl⟩
  have e2 : (r : Int) / (s : Int) = (dq : Int) := by rw [HDQ.out]; rfl
  have e3 : (r : Int) % (s : Int) = (tq : Int) := by rw [HTQ.out]; rfl
  have b1 : dq ≤ r := by rw [HDQ.out]; exact Nat.div_le_self _ _
  have hcase : ¬ (tq = 0 ∧ 1 + dq < n) := by rw [HTQ.out, HDQ.out]; exact hsel.out
  by_cases ht : tq = 0
  · subst ht
    have hd : ¬ (1 + dq < n) := fun h => hcase ⟨rfl, h⟩
    clear hcase
    go_enter Try.func32, Try.ntmps32
    go_wp2_with fail
    go_quiet (fail)
    rw [e1]
    go_wp2_with fail
    go_end0
    exact ⟨rfl, hI.drewN _, below_drewN (Below.refl _ _) _⟩
  · have hb : ((tq : Int) == 0) = false := beq_eq_false_iff_ne.2 (by omega)
    clear hcase
    go_enter Try.func32, Try.ntmps32
    go_wp2_with fail
    go_quiet (fail)
    rw [e1]
    go_wp2_with fail
    go_end0
    exact ⟨rfl, hI.drewN _, below_drewN (Below.refl _ _) _⟩

theorem inv_step {B b off cap n N s m k gg cp : Nat} {ss : List ByteArray} {xs : List Nat} {w w1 : World} {v : Value} {o : Obj} (hI : Inv B b off cap n N s ss xs w) (hbB : b < B)
    (hv : Blk w (B + 4) 22 [v]) (hne : v.ownBlock ≠ some (B + 4)) (hm : m < n)
    (hown1 : w1.ownsRow (B + 3) 9 1 (.slice (some ⟨gg, 0, none⟩) (xs.length + 1) cp) (xs.length + 1) (xs.map (fun i => Value.string (ss.getD i ByteArray.empty)) ++ [.string (ss.getD m ByteArray.empty)]))
    (hgrow : ((w.drewN k).alloc o).grownBy w1 v.ownBlock) (hat : v.ownBlock = some gg ∨ gg = w.heap.size + 1) :
    Inv B b off cap n N s ss (xs ++ [m]) (w1.setCell ⟨B + 4, 0, none⟩ (.slice (some ⟨gg, 0, none⟩) (xs.length + 1) cp)) ∧ Below B w (w1.setCell ⟨B + 4, 0, none⟩ (.slice (some ⟨gg, 0, none⟩) (xs.length + 1) cp)) := by
  obtain ⟨v0, hv0, hown0, hne0⟩ := hI.ord
  have e0 : v0 = v := by
    have h1 := hv.cell 0
    rw [hv0.cell 0] at h1
    simpa using h1
  rw [e0] at hown0
  have lB4 := hv.lt
  have hsz : w.heap.size + 1 ≤ w1.heap.size := by
    have := hgrow.size
    simpa using this
  have hgg : B + 3 ≤ gg := by
    rcases hat with h | h
    · exact (hown0.lt gg h).1
    · omega
  have hgg4 : gg ≠ B + 4 := by
    rcases hat with h | h
    · intro e; rw [e] at h; exact hne h
    · omega
  have old : ∀ j, j < B + 3 → w1.heap[j]? = w.heap[j]? := fun j hj => by
    have h1 := hgrow.block j (by simp; omega) (fun e => by have := (hown0.lt j e.symm).1; omega)
    rw [h1]
    exact Below.heap_alloc w o j (by omega)
  have oldS : ∀ j, j < B + 3 → (w1.setCell ⟨B + 4, 0, none⟩ (.slice (some ⟨gg, 0, none⟩) (xs.length + 1) cp)).heap[j]? = w.heap[j]? := fun j hj => by
    rw [heap_setCell_other _ _ _ _ (by simp; omega)]
    exact old j hj
  have cellS : ∀ (a : Addr), a.block < B + 3 → (w1.setCell ⟨B + 4, 0, none⟩ (.slice (some ⟨gg, 0, none⟩) (xs.length + 1) cp)).cell? a = w.cell? a := fun a ha => World.cell?_of_block (oldS a.block ha)
  have b4 : Blk w1 (B + 4) 22 [v] := by
    have h1 := hgrow.block (B + 4) (by simp; omega) (Ne.symm hne)
    unfold Blk
    rw [h1]
    exact (Below.heap_alloc w o (B + 4) lB4).trans hv
  refine ⟨⟨?_, ?_, ?_, ?_, ?_⟩, ?_⟩
  · rw [cellS _ (by simp)]; exact hI.mem
  · rw [cellS _ (by simp)]; exact hI.pts
  · rw [cellS _ (by simp)]; exact hI.spr
  · intro i hi
    rw [cellS _ (by simp; omega)]; exact hI.strs i hi
  · refine ⟨_, b4.set 0 _, ?_, ?_⟩
    · have h2 : (xs ++ [m]).length = xs.length + 1 := by simp
      have h3 : (xs ++ [m]).map (fun i => Value.string (ss.getD i ByteArray.empty)) = xs.map (fun i => Value.string (ss.getD i ByteArray.empty)) ++ [.string (ss.getD m ByteArray.empty)] := by simp
      rw [h2, h3]
      obtain ⟨q1, q2⟩ := hown1
      refine ⟨q1, ?_⟩
      rcases q2 with q2 | ⟨g', cap', cur, q3, q4, q5, q6⟩
      · simp at q2
      · refine Or.inr ⟨g', cap', cur, q3, q4, ?_, q6⟩
        simp only [Value.slice.injEq, Option.some.injEq, Addr.mk.injEq, and_true, true_and] at q3
        rw [heap_setCell_other _ _ _ _ (by simp; omega)]
        exact q5
    · simp [Value.ownBlock]; omega
  · refine ⟨?_, ?_, ?_, ?_, ?_⟩
    · exact hgrow.os
    · exact hgrow.tape
    · exact hgrow.output
    · simp [World.setCell]; omega
    · intro j hj
      exact oldS j (by omega)

set_option maxHeartbeats 3200000 in
theorem visit_some (B b off cap n N s r : Nat) (q : Int) (ss : List ByteArray) (xs : List Nat) (w : World) (hI : Inv B b off cap n N s ss xs w)
    (hN : 2 ≤ N) (hN' : N ≤ 1048576) (hs1 : 1 ≤ s) (hs2 : s ≤ 2) (hn' : n ≤ 1048576) (hq : -1048576 ≤ q) (hq' : q ≤ 4194304) (hr : r < N) (hbB : b < B) (hxl : xs.length ≤ 1048576)
    (hres : Hid ((q.tmod (N : Int) + (N : Int)).tmod (N : Int) = (r : Int))) (hsel : Hid (r % s = 0 ∧ 1 + r / s < n)) :
    Calls Try.prog 32 #[.int .i64 q, .pointer (some ⟨B + 1, 0, none⟩), .pointer (some ⟨B + 2, 0, none⟩), .pointer (some ⟨B, 0, none⟩), .pointer (some ⟨B + 4, 0, none⟩)] w fun e w' =>
      e = .returned (.tuple #[]) ∧ Inv B b off cap n N s ss (xs ++ [1 + r / s]) w' ∧ Below B w w' := by
  have c1 := hI.pts
  have c2 := hI.spr
  have c3 := hI.mem
  obtain ⟨v, hv, hown, hne⟩ := hI.ord
  have c4 : w.cell? ⟨B + 4, 0, none⟩ = some v := by rw [hv.cell]; rfl
  have f4 := hv.frozen 0
  have d1 : -(N : Int) < q.tmod (N : Int) := by have := Int.lt_tmod_of_pos q (show (0 : Int) < N by omega); omega
  have d2 : q.tmod (N : Int) < (N : Int) := Int.tmod_lt_of_pos q (by omega)
  have e1 : (q.tmod (N : Int) + (N : Int)) % (N : Int) = (r : Int) := by rw [← Int.tmod_eq_emod_of_nonneg (by omega)]; exact hres.out
  obtain ⟨dq, HDQ⟩ : ∃ x, Hid (x = r / s) := ⟨_, rfl⟩
  have e2 : (r : Int) / (s : Int) = (dq : Int) := by rw [HDQ.out]; rfl
  have e3 : (r : Int) % (s : Int) = 0 := by have := hsel.out.1; omega
  have b1 : dq ≤ r := by rw [HDQ.out]; exact Nat.div_le_self _ _
  have hd : 1 + dq < n := by rw [HDQ.out]; exact hsel.out.2
  obtain ⟨m, HMQ⟩ : ∃ x, Hid (x = 1 + dq) := ⟨_, rfl⟩
  have e4 : 1 + (dq : Int) = (m : Int) := by rw [HMQ.out]; omega
  have hm : m < n := by rw [HMQ.out]; exact hd
  have c5 := hI.strs m hm
  obtain ⟨i9, hi9, hz90, hz91, hz92⟩ := info_parts Labels.info9
  have lB4 := hv.lt
  have i1 : (0 : Int) ≤ (m : Int) := by omega
  have i2 : (m : Int) < (n : Int) := by omega
  have F4 : ∀ k o, ((w.drewN k).alloc o).frozen? ⟨B + 4, 0, none⟩ = false := fun k o => by
    have h : ((w.drewN k).alloc o).heap[B + 4]? = w.heap[B + 4]? := Below.heap_alloc w o (B + 4) lB4
    rw [World.frozen?_of_block (w := w) h]
    exact f4
  have A4 : ∀ k o, ((w.drewN k).alloc o).cell? ⟨B + 4, 0, none⟩ = some v := fun k o => by
    have h : ((w.drewN k).alloc o).heap[B + 4]? = w.heap[B + 4]? := Below.heap_alloc w o (B + 4) lB4
    rw [World.cell?_of_block (w := w) h]
    exact c4
  have nB : v.ownBlock ≠ some B := fun e => by have := (hown.lt B e).1; omega
  have nb : v.ownBlock ≠ some b := fun e => by have := (hown.lt b e).1; omega
  obtain ⟨st, HST⟩ : ∃ x, Hid (x = ss.getD m ByteArray.empty) := ⟨_, rfl⟩
  rw [← HST.out] at c5
  go_enter Try.func32, Try.ntmps32
  go_wp2_with fail
  go_quiet (fail)
  rw [e1]
  go_wp2_with fail
  go_region_law ((refine step_append_lies _ (by rfl) _ _ _ (by rfl) (B + 3) 9 i9 (.string ⟨#[]⟩) 1 16 Try.underlying22 hi9 hz90 hz91 hz92 rfl (by omega) v xs.length (xs.map (fun i => Value.string (ss.getD i ByteArray.empty))) (by rfl) (by exact hown.alloc _) ⟨w.heap.size, 0, none⟩ 1 1 [.string st] (by rfl) (by rfl) (World.news_of_block (cs := #[.string st]) (t := 9) (fr := (0, 0)) (heap_alloc_new w _)) (by simp [Value.oneCell']) (by omega) (by unfold maxLen; omega) (by omega) (by simp; omega) (w.heap.size + 1) (by simp) ?_; intro gg cp w1 hown1 hgrow hat hlt; have c4' := (hgrow.cell_far ⟨B + 4, 0, none⟩ (by simp; omega) (Ne.symm hne)).trans (A4 _ _); have f4' := (hgrow.frozen_far ⟨B + 4, 0, none⟩ (by simp; omega) (Ne.symm hne)).trans (F4 _ _)))
  all_goals
    go_wp2_with fail
    go_end0
    have R := inv_step (m := m) hI hbB hv hne hm (by rw [← HST.out]; exact hown1) hgrow hat
    rw [HMQ.out, HDQ.out] at R
    exact ⟨rfl, R.1, R.2⟩

/-- visit, either way. -/
theorem visit (B b off cap n r : Nat) (q : Int) (ss : List ByteArray) (xs : List Nat) (w : World) (hI : Inv B b off cap n (pts n) (spr n) ss xs w)
    (hn : 2 ≤ n) (hn' : n ≤ 65536) (hq : -1048576 ≤ q) (hq' : q ≤ 4194304) (hr : r < pts n) (hbB : b < B) (hxl : xs.length ≤ 1048576)
    (hres : (q.tmod (pts n : Int) + (pts n : Int)).tmod (pts n : Int) = (r : Int)) :
    Calls Try.prog 32 #[.int .i64 q, .pointer (some ⟨B + 1, 0, none⟩), .pointer (some ⟨B + 2, 0, none⟩), .pointer (some ⟨B, 0, none⟩), .pointer (some ⟨B + 4, 0, none⟩)] w fun e w' =>
      e = .returned (.tuple #[]) ∧ Inv B b off cap n (pts n) (spr n) ss (xs ++ (sel n r).toList) w' ∧ Below B w w' := by
  have h1 := pts_pos n hn
  have h2 := pts_le n hn
  have hs : 1 ≤ spr n ∧ spr n ≤ 2 := by rcases spr_cases n with ⟨_, e, _⟩ | ⟨_, e, _⟩ <;> omega
  by_cases hc : r % spr n = 0 ∧ 1 + r / spr n < n
  · have e : sel n r = some (1 + r / spr n) := by unfold sel; rw [if_pos hc]
    rw [e]
    exact visit_some B b off cap n (pts n) (spr n) r q ss xs w hI h1 (by omega) hs.1 hs.2 (by omega) hq hq' hr hbB hxl hres hc
  · have e : sel n r = none := by unfold sel; rw [if_neg hc]
    rw [e]
    have := visit_none B b off cap n (pts n) (spr n) r q ss xs w hI h1 (by omega) hs.1 hs.2 (by omega) hq hq' hr hres hc
    simpa using this

/-- the point that visit comes to. -/
theorem resid (N : Nat) (q : Int) (r : Nat) (hN : 0 < N) (h : (q = r ∨ q = (r : Int) + N ∨ q = (r : Int) - N)) (hr : r < N) : (q.tmod (N : Int) + (N : Int)).tmod (N : Int) = (r : Int) := by
  have key : ∀ x : Int, 0 ≤ x → x < N → (x + (N : Int)).tmod (N : Int) = x := fun x h0 h1 => by
    rw [Int.tmod_eq_emod_of_nonneg (by omega), Int.add_emod_right, Int.emod_eq_of_lt h0 h1]
  rcases h with h | h | h
  · have e : q.tmod (N : Int) = (r : Int) := by rw [h]; exact Int.tmod_eq_of_lt (by omega) (by omega)
    rw [e]
    exact key _ (by omega) (by omega)
  · have e : q.tmod (N : Int) = (r : Int) := by rw [h]; exact key _ (by omega) (by omega)
    rw [e]
    exact key _ (by omega) (by omega)
  · by_cases hr0 : r = 0
    · have e : q.tmod (N : Int) = 0 := by
        rw [show q = -(N : Int) by omega, Int.neg_tmod, Int.tmod_self]; rfl
      rw [e, hr0]
      simp [Int.tmod_self]
    · have e : q.tmod (N : Int) = -((N : Int) - r) := by
        rw [show q = -((N : Int) - r) by omega, Int.neg_tmod, Int.tmod_eq_of_lt (a := (N : Int) - r) (by omega) (by omega)]
      rw [e, show -((N : Int) - r) + N = r by omega]
      exact Int.tmod_eq_of_lt (by omega) (by omega)

theorem zz_up (N p k : Nat) (hN : N % 2 = 0) (hp : p < N) (h1 : 1 ≤ k) (h2 : k ≤ N / 2) : zz N p (2 * k - 1) < N ∧ ((p : Int) + k = zz N p (2 * k - 1) ∨ (p : Int) + k = (zz N p (2 * k - 1) : Int) + N) := by
  unfold zz
  repeat' split
  all_goals omega

theorem zz_dn (N p k : Nat) (hN : N % 2 = 0) (hp : p < N) (h1 : 1 ≤ k) (h2 : k < N / 2) : zz N p (2 * k) < N ∧ ((p : Int) - k = zz N p (2 * k) ∨ (p : Int) - k = (zz N p (2 * k) : Int) - N) := by
  unfold zz
  repeat' split
  all_goals omega

/-- The world in which the first visit is made. -/
theorem inv_start (b off cap n : Nat) (ss : List ByteArray) (w : World) (hb : b < w.heap.size) (s0 : ByteArray) (h0 : s0 = ss.getD 0 ByteArray.empty)
    (hc : ∀ i, i < n → w.cell? ⟨b, off + i, none⟩ = some (.string (ss.getD i ByteArray.empty))) (N s : Nat) (W : World)
    (hW : W = (((((w.alloc (.cells #[.slice (some ⟨b, off, none⟩) n cap] 22)).alloc (.cells #[.int .i64 (N : Int)] 3)).alloc (.cells #[.int .i64 (s : Int)] 3)).alloc (.cells #[.string s0] 9)).alloc
      (.cells #[.slice (some ⟨w.heap.size + 1 + 1 + 1, 0, none⟩) 1 1] 22))) :
    Inv w.heap.size b off cap n N s ss [0] W ∧ Below w.heap.size w W := by
  have hsz : W.heap.size = w.heap.size + 5 := by rw [hW]; simp
  have g0 : W.heap[w.heap.size]? = some (.cells #[.slice (some ⟨b, off, none⟩) n cap] 22) := by
    rw [hW, Below.heap_alloc _ _ _ (by simp <;> omega), Below.heap_alloc _ _ _ (by simp <;> omega), Below.heap_alloc _ _ _ (by simp <;> omega), Below.heap_alloc _ _ _ (by simp)]
    exact heap_alloc_new w _
  have g1 : W.heap[w.heap.size + 1]? = some (.cells #[.int .i64 (N : Int)] 3) := by
    rw [hW, Below.heap_alloc _ _ _ (by simp <;> omega), Below.heap_alloc _ _ _ (by simp <;> omega), Below.heap_alloc _ _ _ (by simp)]
    have := heap_alloc_new (w.alloc (.cells #[.slice (some ⟨b, off, none⟩) n cap] 22)) (.cells #[.int .i64 (N : Int)] 3)
    simpa using this
  have g2 : W.heap[w.heap.size + 2]? = some (.cells #[.int .i64 (s : Int)] 3) := by
    rw [hW, Below.heap_alloc _ _ _ (by simp <;> omega), Below.heap_alloc _ _ _ (by simp)]
    have := heap_alloc_new ((w.alloc (.cells #[.slice (some ⟨b, off, none⟩) n cap] 22)).alloc (.cells #[.int .i64 (N : Int)] 3)) (.cells #[.int .i64 (s : Int)] 3)
    simpa using this
  have g3 : W.heap[w.heap.size + 3]? = some (.cells #[.string s0] 9) := by
    rw [hW, Below.heap_alloc _ _ _ (by simp)]
    have := heap_alloc_new (((w.alloc (.cells #[.slice (some ⟨b, off, none⟩) n cap] 22)).alloc (.cells #[.int .i64 (N : Int)] 3)).alloc (.cells #[.int .i64 (s : Int)] 3)) (.cells #[.string s0] 9)
    simpa using this
  have g4 : W.heap[w.heap.size + 4]? = some (.cells #[.slice (some ⟨w.heap.size + 1 + 1 + 1, 0, none⟩) 1 1] 22) := by
    rw [hW]
    have := heap_alloc_new ((((w.alloc (.cells #[.slice (some ⟨b, off, none⟩) n cap] 22)).alloc (.cells #[.int .i64 (N : Int)] 3)).alloc (.cells #[.int .i64 (s : Int)] 3)).alloc (.cells #[.string s0] 9)) (.cells #[.slice (some ⟨w.heap.size + 1 + 1 + 1, 0, none⟩) 1 1] 22)
    simpa using this
  have old : ∀ j, j < w.heap.size → W.heap[j]? = w.heap[j]? := fun j hj => by
    rw [hW, Below.heap_alloc _ _ _ (by simp <;> omega), Below.heap_alloc _ _ _ (by simp <;> omega), Below.heap_alloc _ _ _ (by simp <;> omega), Below.heap_alloc _ _ _ (by simp <;> omega), Below.heap_alloc _ _ _ hj]
  refine ⟨⟨?_, ?_, ?_, ?_, ?_⟩, ?_⟩
  · simp [World.cell?, g0]
  · simp [World.cell?, g1]
  · simp [World.cell?, g2]
  · intro i hi
    rw [World.cell?_of_block (w := w) (old b hb)]
    exact hc i hi
  · refine ⟨_, g4, ⟨by simp, Or.inr ⟨w.heap.size + 3, 1, #[.string s0], rfl, by omega, g3, by simp, by simp [maxLen], by simp, by simp [h0]⟩⟩, by simp [Value.ownBlock]⟩
  · exact ⟨by rw [hW]; rfl, by rw [hW]; rfl, by rw [hW]; rfl, by omega, old⟩

theorem tour_two (n p k : Nat) (h : 1 ≤ k) : 0 :: tour n p (2 * k) = 0 :: tour n p (2 * k - 1) ++ (sel n (zz (pts n) p (2 * k - 1))).toList := by
  have := tour_succ n p (2 * k - 1)
  rw [show 2 * k - 1 + 1 = 2 * k by omega] at this
  rw [this]; rfl
theorem tour_three (n p k : Nat) (h : 1 ≤ k) : 0 :: tour n p (2 * (k + 1) - 1) = 0 :: tour n p (2 * k) ++ (sel n (zz (pts n) p (2 * k))).toList := by
  have := tour_succ n p (2 * k)
  rw [show 2 * (k + 1) - 1 = 2 * k + 1 by omega, this]; rfl
theorem tour_one (n p : Nat) : 0 :: tour n p (2 * 1 - 1) = [0] ++ (sel n p).toList := by
  have := tour_succ n p 0
  rw [zz_zero] at this
  rw [show 2 * 1 - 1 = 0 + 1 by omega, this]; rfl

/-- What the variable order holds in the end. -/
theorem order_out {B b off cap n p : Nat} {ss : List ByteArray} {w : World} (hn : 2 ≤ n) (hp : p < pts n) (hI : Inv B b off cap n (pts n) (spr n) ss (0 :: tour n p (pts n)) w) :
    ∃ g cp, w.cell? ⟨B + 1 + 1 + 1 + 1, 0, none⟩ = some (.slice (some ⟨g, 0, none⟩) n cp) ∧ B ≤ g ∧ g < w.heap.size ∧
      ∀ j, j < n → w.cell? ⟨g, 0 + j, none⟩ = some (.string (ss.getD ((ring n p).getD j 0) ByteArray.empty)) := by
  obtain ⟨v, hv, hown, hne⟩ := hI.ord
  have hl : (0 :: tour n p (pts n)).length = n := ring_length hn hp
  rw [hl] at hown
  have hown2 := hown
  rcases hown.2 with ⟨_, h0⟩ | ⟨g, cp, cur, rfl, hg, hgg, rest⟩
  · omega
  · refine ⟨g, cp, ?_, by omega, (Array.getElem?_eq_some_iff.1 hgg).1, ?_⟩
    · have := hv.cell 0
      simpa using this
    · intro j hj
      rw [Nat.zero_add, hown2.cellAt j (by omega), List.getElem?_map]
      have hjl : j < (ring n p).length := by rw [ring_length hn hp]; exact hj
      have e : (0 :: tour n p (pts n))[j]? = some ((ring n p).getD j 0) := by
        show (ring n p)[j]? = _
        simp [hjl]
      rw [e, Option.map_some]

set_option maxHeartbeats 3200000 in
theorem order (b off cap n : Nat) (turn : Nat) (ss : List ByteArray) (w : World) (hn : 2 ≤ n) (hn' : n ≤ 65536) (ht : turn < 18446744073709551616) (hb : b < w.heap.size)
    (hc : Hid (∀ i, i < n → w.cell? ⟨b, off + i, none⟩ = some (.string (ss.getD i ByteArray.empty)))) :
    Calls Try.prog 28 #[.slice (some ⟨b, off, none⟩) n cap, .int .u64 turn] w fun e w' => ∃ g cp, e = .returned (.slice (some ⟨g, 0, none⟩) n cp) ∧ w.heap.size ≤ g ∧ g < w'.heap.size ∧
      (∀ j, j < n → w'.cell? ⟨g, 0 + j, none⟩ = some (.string (ss.getD ((ring n (turn % pts n)).getD j 0) ByteArray.empty))) ∧ Below w.heap.size w w' := by
  have h1 := pts_pos n hn
  have h2 := pts_le n hn
  obtain ⟨N, HN⟩ : ∃ x, Hid (x = pts n) := ⟨_, rfl⟩
  rw [← HN.out] at h1 h2
  have c0 := hc.out 0 (by omega)
  obtain ⟨s0, HS0⟩ : ∃ x, Hid (x = ss.getD 0 ByteArray.empty) := ⟨_, rfl⟩
  rw [← HS0.out] at c0
  rw [Nat.add_zero] at c0
  have C0 : ∀ o1 o2 o3, (((w.alloc o1).alloc o2).alloc o3).cell? ⟨b, off, none⟩ = some (.string s0) := fun o1 o2 o3 => by
    rw [World.cell?_of_block (w := w) ?_]
    · exact c0
    · rw [Below.heap_alloc _ _ _ (by simp; omega), Below.heap_alloc _ _ _ (by simp; omega), Below.heap_alloc _ _ _ hb]
  obtain ⟨p, HP⟩ : ∃ x, Hid (x = turn % N) := ⟨_, rfl⟩
  have hp : p < N := by rw [HP.out]; exact Nat.mod_lt _ (by omega)
  have e1 : (turn : Int) % (N : Int) = (p : Int) := by rw [HP.out]; rfl
  go_enter Try.func28, Try.ntmps28
  go_wp2_with fail
  refine (points n _ hn (by omega)).mono ?_
  rintro e w' ⟨rfl, rfl⟩
  rw [← HN.out]
  go_wp2_with fail
  have hI0 := inv_start b off cap n ss w hb s0 HS0.out hc.out N (spr n) _ rfl
  refine (visit w.heap.size b off cap n p (p : Int) ss [0] _ (by rw [← HN.out]; exact hI0.1) hn hn' (by omega) (by omega) (by rw [← HN.out]; exact hp) hb (by simp) (resid _ _ _ (by rw [← HN.out]; omega) (Or.inl rfl) (by rw [← HN.out]; exact hp))).mono ?_
  rintro e w1 ⟨rfl, hI1, hb1⟩
  have hb1 := hI0.2.trans hb1
  rw [← tour_one] at hI1
  clear hI0 C0 c0 e1
  have hNe : N % 2 = 0 := by rw [HN.out]; exact pts_even n
  have g1 : w1.cell? ⟨w.heap.size + 1, 0, none⟩ = some (.int .i64 N) := by rw [HN.out]; exact hI1.pts
  go_wp2_with fail
  go_loopw [10] (fun i wr => ∃ k : Nat, 1 ≤ k ∧ k ≤ N / 2 ∧ i = .int .i64 k ∧ Inv w.heap.size b off cap n (pts n) (spr n) ss (0 :: tour n p (2 * k - 1)) wr ∧ Below w.heap.size w wr) (fun i _ => N - (intOf i).toNat)
  case atStart => exact ⟨1, by omega, by omega, rfl, hI1, hb1⟩
  case round =>
    obtain ⟨k, hk1, hk2, rfl, hI, hbel⟩ := hrel
    have g1 : wr.cell? ⟨w.heap.size + 1, 0, none⟩ = some (.int .i64 N) := by rw [HN.out]; exact hI.pts
    have hl := tour_len n p (2 * k - 1)
    have zu := zz_up N p k hNe hp hk1 hk2
    rw [HN.out] at zu
    by_cases hlt : k < N / 2
    · have zd := zz_dn N p k hNe hp hk1 hlt
      rw [HN.out] at zd
      go_wp2_with fail
      refine (visit w.heap.size b off cap n (zz (pts n) p (2 * k - 1)) _ ss _ _ hI hn hn' (by omega) (by omega) zu.1 hb (by simp; omega) (resid _ _ _ (by rw [← HN.out]; omega) (by rcases zu.2 with h | h; exact Or.inl h; exact Or.inr (Or.inl h)) zu.1)).mono ?_
      rintro e w2 ⟨rfl, hI2, hb2⟩
      rw [← tour_two n p k hk1] at hI2
      have hb2 := hbel.trans hb2
      have hl2 := tour_len n p (2 * k)
      go_wp2_with fail
      refine (visit w.heap.size b off cap n (zz (pts n) p (2 * k)) _ ss _ _ hI2 hn hn' (by omega) (by omega) zd.1 hb (by simp; omega) (resid _ _ _ (by rw [← HN.out]; omega) (by rcases zd.2 with h | h; exact Or.inl h; exact Or.inr (Or.inr h)) zd.1)).mono ?_
      rintro e w3 ⟨rfl, hI3, hb3⟩
      rw [← tour_three n p k hk1] at hI3
      have hb3 := hb2.trans hb3
      clear hI hI2 hI1
      go_wp2_with fail
      go_roundw
      case rel => exact ⟨k + 1, by omega, by omega, by go_num, hI3, hb3⟩
      case measure => simp [intOf]; omega
    · go_wp2_with fail
      refine (visit w.heap.size b off cap n (zz (pts n) p (2 * k - 1)) _ ss _ _ hI hn hn' (by omega) (by omega) zu.1 hb (by simp; omega) (resid _ _ _ (by rw [← HN.out]; omega) (by rcases zu.2 with h | h; exact Or.inl (by omega); exact Or.inr (Or.inl (by omega))) zu.1)).mono ?_
      rintro e w2 ⟨rfl, hI2, hb2⟩
      rw [← tour_two n p k hk1, show 2 * k = pts n by rw [← HN.out]; omega] at hI2
      have hb2 := hbel.trans hb2
      obtain ⟨g, cp, hv, hg, hgl, hcl⟩ := order_out hn (by rw [← HN.out]; exact hp) hI2
      clear hI hI1 hI2 g1
      go_wp2_with fail
      go_ret
      refine ⟨g, cp, rfl, hg, hgl, ?_, hb2⟩
      have hpt : turn % pts n = p := by rw [← HN.out]; exact HP.out.symm
      rw [hpt]
      exact hcl

set_option maxHeartbeats 400000 in
theorem zzRing (b off cap n : Nat) (turn : Nat) (ss : List ByteArray) (w : World) (hn : 2 ≤ n) (hn' : n ≤ 65536) (ht : turn < 18446744073709551616) (hb : b < w.heap.size)
    (hc : Hid (∀ i, i < n → w.cell? ⟨b, off + i, none⟩ = some (.string (ss.getD i ByteArray.empty)))) :
    Calls Try.prog 13 #[.slice (some ⟨b, off, none⟩) n cap, .int .u64 turn] w fun e w' => ∃ g cp, e = .returned (.slice (some ⟨g, 0, none⟩) n cp) ∧ w.heap.size ≤ g ∧ g < w'.heap.size ∧
      (∀ j, j < n → w'.cell? ⟨g, 0 + j, none⟩ = some (.string (ss.getD ((ring n (turn % pts n)).getD j 0) ByteArray.empty))) ∧ Below w.heap.size w w' := by
  go_enter Try.func13, Try.ntmps13
  go_wp2_with fail
  refine (order b off cap n turn ss _ hn hn' ht hb hc).mono ?_
  rintro e w1 ⟨g, cp, rfl, h1, h2, h3, h4⟩
  have H3 := h3
  clear h3
  go_wp2_with fail
  go_ret
  exact ⟨g, cp, rfl, h1, h2, H3, h4⟩

end Go.Proofs.Qxb6001298a.Ring
