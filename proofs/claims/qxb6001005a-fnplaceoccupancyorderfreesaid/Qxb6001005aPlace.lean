/-
  THE WALKS of lawPow2, lawZeros, lawClone, place, ZZPlace: each by its contract.
-/
import Derived.Test.Qxb6001005aRows
import Derived.Test.Qxb6001005aPlain
import Derived.WalkKit
import Derived.ProofKit
import Derived.Outline
import Derived.WalkSpells
import Derived.Laws.BitsAllLaws
namespace Go.Proofs.Qxb6001005a.Place
open Go.RowKit
open Plain

theorem ret_int {k : IntKind} {a b : Int} (h : a = b) : Ending.returned (.int k a) = .returned (.int k b) := by rw [h]

/-! ### masks -/
theorem and_mask (x : Int) (m N : Nat) (hN : N = 2 ^ m) (hN' : N ≤ 18446744073709551616) (h0 : 0 ≤ x) (h1 : x < 18446744073709551616) :
    bits .and .u64 x ((N : Int) - 1) = ((x.toNat % N : Nat) : Int) := by
  have hp : 0 < N := by rw [hN]; exact Nat.two_pow_pos m
  rw [u64_and x _ h0 h1 (by omega) (by omega)]
  have : ((N : Int) - 1).toNat = 2 ^ m - 1 := by omega
  rw [this, Nat.and_two_pow_sub_one_eq_mod, hN]

theorem i64_and_nat (a b : Nat) (ha : a < 9223372036854775808) (hb : b < 9223372036854775808) : bits .and .i64 (a : Int) (b : Int) = ((a &&& b : Nat) : Int) := by
  have key : (BitVec.ofInt 64 (a : Int) &&& BitVec.ofInt 64 (b : Int)).toNat = a &&& b := by
    rw [BitVec.toNat_and, BitVec.toNat_ofInt, BitVec.toNat_ofInt]
    congr 1 <;> omega
  show IntKind.i64.wrap ((BitVec.ofInt 64 (a : Int) &&& BitVec.ofInt 64 (b : Int)).toNat : Nat) = _
  rw [key, IntKind.wrap_i64]
  have : a &&& b ≤ a := Nat.and_le_left
  omega

theorem pow2_iff (n : Nat) (h : 0 < n) (hn : n < 9223372036854775808) : (bits .and .i64 (n : Int) ((n : Int) - 1) = 0) ↔ ∃ m, n = 2 ^ m := by
  have e : ((n : Int) - 1) = ((n - 1 : Nat) : Int) := by omega
  rw [e, i64_and_nat n (n - 1) hn (by omega)]
  have := Nat.and_sub_one_eq_zero_iff_isPowerOfTwo (n := n) (by omega)
  rw [Nat.isPowerOfTwo] at this
  rw [← this]
  omega

/-! ### a table of uint32, a block of its own -/
def Tab (w : World) (g : Nat) (zs : List Int) : Prop := w.heap[g]? = some (.cells (zs.map (Value.int .u32)).toArray 32 (0, 0))

theorem Tab.cell {w : World} {g : Nat} {zs : List Int} (h : Tab w g zs) (j : Nat) (hj : j < zs.length) : w.cell? ⟨g, j, none⟩ = some (.int .u32 (zs.getD j 0)) := by
  unfold Tab at h
  simp [World.cell?, h, hj]

theorem Tab.lt {w : World} {g : Nat} {zs : List Int} (h : Tab w g zs) : g < w.heap.size := (Array.getElem?_eq_some_iff.1 h).1

theorem Tab.frozen {w : World} {g : Nat} {zs : List Int} (h : Tab w g zs) (j : Nat) : w.frozen? ⟨g, j, none⟩ = false := by
  unfold Tab at h
  simp [World.frozen?, h]

theorem Tab.set {w : World} {g : Nat} {zs : List Int} (h : Tab w g zs) (j : Nat) (v : Int) : Tab (w.setCell ⟨g, j, none⟩ (.int .u32 v)) g (zs.set j v) := by
  unfold Tab at h ⊢
  rw [heap_setCell_same w g j _ 32 _ h]
  congr 2
  simp [List.map_set]

theorem Tab.kept {w w' : World} {g : Nat} {zs : List Int} (h : Tab w g zs) (hb : w'.heap[g]? = w.heap[g]?) : Tab w' g zs := hb.trans h

theorem Tab.below {w w' : World} {g B : Nat} {zs : List Int} (h : Tab w g zs) (hb : Below B w w') (hg : g < B) : Tab w' g zs := h.kept (hb.block g hg)

/-! ### lawPow2 -/
set_option maxHeartbeats 400000 in
theorem pow2_yes (n m : Nat) (w : World) (hn : n < 9223372036854775808) (h : n = 2 ^ m) :
    Calls Try.prog 17 #[.int .i64 n] w fun e w' => e = .returned (.bool true) ∧ w' = w := by
  have hp : 0 < n := by rw [h]; exact Nat.two_pow_pos m
  have hb : (bits .and .i64 (n : Int) ((n : Int) - 1) == 0) = true := beq_iff_eq.2 ((pow2_iff n hp hn).2 ⟨m, h⟩)
  clear h
  go_enter Try.func17, Try.ntmps17
  go_wp2
  go_ret
  exact ⟨rfl, rfl⟩

set_option maxHeartbeats 400000 in
theorem pow2_no (n : Nat) (w : World) (hn : n < 9223372036854775808) (h : ¬ ∃ m, n = 2 ^ m) :
    Calls Try.prog 17 #[.int .i64 n] w fun e w' => e = .returned (.bool false) ∧ w' = w := by
  by_cases hp : 0 < n
  · have hb : (bits .and .i64 (n : Int) ((n : Int) - 1) == 0) = false := beq_eq_false_iff_ne.2 (fun e => h ((pow2_iff n hp hn).1 e))
    clear h
    go_enter Try.func17, Try.ntmps17
    go_wp2
    go_ret
    exact ⟨rfl, rfl⟩
  · obtain rfl : n = 0 := by omega
    clear h
    go_enter Try.func17, Try.ntmps17
    go_wp2
    go_ret
    exact ⟨rfl, rfl⟩

/-! ### lawZeros -/
theorem zeros_yes (zs : List Int) (k : Nat) (hk : k < zs.length) (h : zs.getD k 0 = 0) : zeros (zs.take (k + 1)) = zeros (zs.take k) + 1 := by
  rw [List.take_succ_eq_append_getElem hk]
  have : zs[k] = 0 := by simpa [hk] using h
  simp only [zeros, List.filter_append, List.length_append]
  simp [this]

theorem zeros_no (zs : List Int) (k : Nat) (hk : k < zs.length) (h : ¬ zs.getD k 0 = 0) : zeros (zs.take (k + 1)) = zeros (zs.take k) := by
  rw [List.take_succ_eq_append_getElem hk]
  have : ¬ zs[k] = 0 := by simpa [hk] using h
  simp only [zeros, List.filter_append, List.length_append]
  simp [this]

set_option maxHeartbeats 400000 in
theorem zeros_any (b off cap : Nat) (zs : List Int) (w : World) (hl : zs.length ≤ 281474976710656)
    (hc : ∀ i, i < zs.length → w.cell? ⟨b, off + i, none⟩ = some (.int .u32 (zs.getD i 0))) :
    Calls Try.prog 18 #[.slice (some ⟨b, off, none⟩) zs.length cap] w fun e w' => e = .returned (.int .i64 (zeros zs)) ∧ w' = w := by
  go_enter Try.func18, Try.ntmps18
  go_wp2
  go_loop [3, 4] (fun z i => ∃ k : Nat, k ≤ zs.length ∧ i = .int .i64 k ∧ z = .int .i64 (zeros (zs.take k))) (fun _ i => zs.length - (intOf i).toNat)
  case atStart => exact ⟨0, Nat.zero_le _, rfl, rfl⟩
  case round =>
    obtain ⟨k, hk, rfl, rfl⟩ := hrel
    have hz := zeros_le (zs.take k)
    have hl2 : (zs.take k).length ≤ k := List.length_take_le _ _
    by_cases hlt : k < zs.length
    · have hcell := hc k hlt
      by_cases h0 : zs.getD k 0 = 0
      · have H : Hid (zeros (zs.take (k + 1)) = zeros (zs.take k) + 1) := zeros_yes zs k hlt h0
        rw [h0] at hcell
        clear h0 hc
        go_wp2
        go_round
        case rel => exact ⟨k + 1, by omega, by go_num, by rw [H.out]; go_num⟩
        case measure => simp [intOf]; omega
      · have H : Hid (zeros (zs.take (k + 1)) = zeros (zs.take k)) := zeros_no zs k hlt h0
        generalize zs.getD k 0 = v at hcell h0
        clear hc
        go_wp2
        go_round
        case rel => exact ⟨k + 1, by omega, by go_num, by rw [H.out]⟩
        case measure => simp [intOf]; omega
    · go_wp2
      go_ret
      exact ⟨ret_int (by rw [List.take_of_length_le (by omega)]), rfl⟩

/-! ### lawClone -/
theorem info32 : (Try.prog.info? 32).map (fun i => (i.zero, i.size, i.bytes)) = some (some (.int .u32 0), 1, 4) := by kernel_rfl

theorem tab_made {w' : World} {base g n : Nat} (h : w'.ownsRow base 32 1 (.slice (some ⟨g, 0, none⟩) n n) n (madeCells (Value.int .u32 0).cells (n * 1)).toList) : Tab w' g (List.replicate n 0) := by
  rcases h.2 with ⟨h', _⟩ | ⟨g', cap', cur, h', _, hg, _, _, hcs, htake⟩
  · simp at h'
  · simp only [Value.slice.injEq, Option.some.injEq, Addr.mk.injEq, and_true, true_and] at h'
    obtain ⟨rfl, rfl⟩ := h'
    unfold Tab
    rw [hg]
    congr 2
    apply Array.toList_inj.1
    have e : cur.toList = cur.toList.take (n * 1) := (List.take_of_length_le (by simp [hcs])).symm
    rw [e, htake, show (Value.int IntKind.u32 0).cells = #[Value.int IntKind.u32 0] from rfl, toList_madeCells_one]
    simp

theorem clone_step (zs : List Int) (k : Nat) (hk : k < zs.length) :
    (zs.take k ++ List.replicate (zs.length - k) 0).set k (zs.getD k 0) = zs.take (k + 1) ++ List.replicate (zs.length - (k + 1)) 0 := by
  rw [List.set_append]
  have hl : (zs.take k).length = k := by simp; omega
  rw [if_neg (by omega), hl, Nat.sub_self]
  have : zs.length - k = (zs.length - (k + 1)) + 1 := by omega
  rw [this, List.replicate_succ, List.set_cons_zero, List.take_succ_eq_append_getElem hk, List.append_assoc]
  simp [hk]

set_option maxHeartbeats 400000 in
theorem clone_any (b off cap : Nat) (zs : List Int) (w : World) (hl : zs.length ≤ 1048576) (hb : b < w.heap.size)
    (hc : ∀ i, i < zs.length → w.cell? ⟨b, off + i, none⟩ = some (.int .u32 (zs.getD i 0))) :
    Calls Try.prog 19 #[.slice (some ⟨b, off, none⟩) zs.length cap] w fun e w' => e = .returned (.slice (some ⟨w.heap.size, 0, none⟩) zs.length zs.length) ∧ Tab w' w.heap.size zs ∧ Below w.heap.size w w' := by
  obtain ⟨i0, hi, hz0, hz1, hz2⟩ := info_parts info32
  have hnil := fun (wx : World) => Lib.run_eql_slice_nil (P := Try.prog) wx 31 32 (some ⟨b, off, none⟩) zs.length cap 0 0 Try.underlying31
  go_enter Try.func19, Try.ntmps19
  go_wp2_with (at_make; refine wpList_make_full _ rfl _ _ 31 rfl w.heap.size 32 i0 (.int .u32 0) 1 Try.underlying31 hi hz0 hz1 _ _ _ _ zs.length rfl rfl rfl rfl (by rw [hz2]; omega) (by unfold maxLen; omega) (Nat.le_refl _) ?_; intro w1 hown1 hgrow1)
  have ht1 := tab_made hown1
  have hbel1 : Below w.heap.size w w1 := (Below.refl _ _).grown hgrow1 (Nat.le_refl _) (by simp)
  clear hown1 hgrow1 hnil hi hz0 hz1 hz2
  go_loopw [4] (fun i wr => ∃ k : Nat, k ≤ zs.length ∧ i = .int .i64 k ∧ Tab wr w.heap.size (zs.take k ++ List.replicate (zs.length - k) 0) ∧ Below w.heap.size w wr) (fun i _ => zs.length - (intOf i).toNat)
  case atStart => exact ⟨0, Nat.zero_le _, rfl, by simpa using ht1, hbel1⟩
  case round =>
    obtain ⟨k, hk, rfl, ht, hbel⟩ := hrel
    by_cases hlt : k < zs.length
    · have hcell : wr.cell? ⟨b, off + k, none⟩ = some (.int .u32 (zs.getD k 0)) := (hbel.cell (by exact hb)).trans (hc k hlt)
      have hcell2 := ht.cell k (by simp; omega)
      have hfr := ht.frozen k
      have hset := ht.set k (zs.getD k 0)
      rw [clone_step zs k hlt] at hset
      have HS : Hid (Tab (wr.setCell ⟨w.heap.size, k, none⟩ (.int .u32 (zs.getD k 0))) w.heap.size (zs.take (k + 1) ++ List.replicate (zs.length - (k + 1)) 0)) := hset
      clear hset ht
      generalize zs.getD k 0 = v at hcell HS
      generalize (zs.take k ++ List.replicate (zs.length - k) 0).getD k 0 = v2 at hcell2
      clear hc ht1 hbel1
      go_wp2
      go_roundw
      case rel => exact ⟨k + 1, by omega, by go_num, HS.out, hbel.setCell (Nat.le_refl _) _⟩
      case measure => simp [intOf]; omega
    · go_wp2
      go_ret
      obtain rfl : k = zs.length := by omega
      exact ⟨rfl, by simpa using ht, hbel⟩

/-! ### place, ZZPlace -/
theorem mask_next (m N p : Nat) (hN : N = 2 ^ m) (hN' : N ≤ 1048576) (hp : p < N) : bits .and .u64 ((p : Int) + 1) ((N : Int) - 1) = (((p + 1) % N : Nat) : Int) := by
  rw [and_mask _ m N hN (by omega) (by omega) (by omega)]
  congr 2

set_option maxHeartbeats 400000 in
theorem place_any (bx g m : Nat) (zs : List Int) (n hash : Int) (w : World)
    (hN : zs.length = 2 ^ m) (hN' : zs.length ≤ 1048576) (hn : 0 ≤ n) (hn' : n < 4294967295) (hh : 0 ≤ hash) (hh' : hash < 18446744073709551616)
    (hx : w.cell? ⟨bx, 0, none⟩ = some (.slice (some ⟨g, 0, none⟩) zs.length zs.length)) (ht : Tab w g zs) (hz : 0 < zeros zs) :
    Calls Try.prog 25 #[.pointer (some ⟨bx, 0, none⟩), .int .u32 n, .int .u64 hash] w fun e w' =>
      e = .returned (.tuple #[]) ∧ ∃ d, FE zs hash.toNat d ∧ w' = w.setCell ⟨g, (hash.toNat + d) % zs.length, none⟩ (.int .u32 (n + 1)) := by
  obtain ⟨d0, hd0, hzero⟩ := met zs hz hash.toNat
  have hp0 : 0 < zs.length := by omega
  have e1 := and_mask hash m zs.length hN (by omega) hh hh'
  have HN : Hid (zs.length = 2 ^ m) := hN
  have HZ : Hid (zs.getD ((hash.toNat + d0) % zs.length) 0 = 0) := hzero
  have hlt0 : hash.toNat % zs.length < zs.length := Nat.mod_lt _ hp0
  obtain ⟨p0, HP⟩ : ∃ p, Hid (p = hash.toNat % zs.length) := ⟨_, rfl⟩
  rw [← HP.out] at e1 hlt0
  clear hN hzero hz
  go_enter Try.func25, Try.ntmps25
  go_wp2_with fail
  go_loop [7] (fun i => ∃ d p : Nat, Hid (p = (hash.toNat + d) % zs.length) ∧ p < zs.length ∧ i = .int .u64 p ∧ Hid (∀ e, e < d → zs.getD ((hash.toNat + e) % zs.length) 0 ≠ 0) ∧ d ≤ d0) (fun i => ((hash.toNat + d0) % zs.length + zs.length - (intOf i).toNat) % zs.length)
  case atStart => exact ⟨0, p0, HP.out, hlt0, rfl, fun e he => absurd he (by omega), Nat.zero_le _⟩
  case round =>
    obtain ⟨d, p, hp, hpl, rfl, hfull, hdd⟩ := hrel
    have hcell := ht.cell p hpl
    have hfr := ht.frozen p
    by_cases h0 : zs.getD p 0 = 0
    · have H0 : Hid (zs.getD p 0 = 0) := h0
      rw [h0] at hcell
      clear h0
      go_wp2
      go_end0
      exact ⟨rfl, d, ⟨by omega, by rw [← hp.out]; exact H0.out, hfull.out⟩, by rw [← hp.out]⟩
    · have e2 := mask_next m zs.length p HN.out hN' hpl
      have hlt2 : (p + 1) % zs.length < zs.length := Nat.mod_lt _ hp0
      obtain ⟨q, HQ⟩ : ∃ q, Hid (q = (p + 1) % zs.length) := ⟨_, rfl⟩
      rw [← HQ.out] at e2 hlt2
      have HNE : Hid (zs.getD p 0 ≠ 0) := h0
      have hdlt : d < d0 := by
        refine Nat.lt_of_le_of_ne hdd fun e => ?_
        have := HZ.out
        rw [← e, ← hp.out] at this
        exact h0 this
      generalize zs.getD p 0 = v at hcell h0
      go_wp2
      go_round
      case rel =>
        have hq : q = (hash.toNat + (d + 1)) % zs.length := by rw [HQ.out, hp.out, Nat.mod_add_mod, Nat.add_assoc]
        refine ⟨d + 1, q, hq, hlt2, rfl, ?_, hdlt⟩
        intro e he
        by_cases hed : e = d
        · subst hed; rw [← hp.out]; exact HNE.out
        · exact hfull.out e (by omega)
      case measure =>
        have hq : q = (hash.toNat + (d + 1)) % zs.length := by rw [HQ.out, hp.out, Nat.mod_add_mod, Nat.add_assoc]
        have m1 := dist zs.length hash.toNat d d0 hdd hd0
        have m2 := dist zs.length hash.toNat (d + 1) d0 hdlt hd0
        rw [← hp.out] at m1
        rw [← hq] at m2
        simp [intOf]
        omega

theorem grown_set (w : World) (o : Obj) (g j : Nat) (u : Value) : w.grownBy ((w.alloc o).setCell ⟨g, j, none⟩ u) (some g) :=
  ⟨rfl, rfl, rfl, by simp [World.setCell], fun k hk hne => (heap_setCell_other _ ⟨g, j, none⟩ k u (fun e => hne (by simp [e]))).trans (heap_alloc_old w o hk)⟩

set_option maxHeartbeats 400000 in
theorem zzPlace (g m : Nat) (zs : List Int) (n hash : Int) (w : World)
    (hN : zs.length = 2 ^ m) (hN' : zs.length ≤ 1048576) (hn : 0 ≤ n) (hn' : n < 4294967295) (hh : 0 ≤ hash) (hh' : hash < 18446744073709551616)
    (ht : Tab w g zs) (hz : 0 < zeros zs) :
    Calls Try.prog 20 #[.slice (some ⟨g, 0, none⟩) zs.length zs.length, .int .u32 n, .int .u64 hash] w fun e w' =>
      e = .returned (.slice (some ⟨g, 0, none⟩) zs.length zs.length) ∧ ∃ d, FE zs hash.toNat d ∧ Tab w' g (zs.set ((hash.toNat + d) % zs.length) (n + 1)) ∧ w.grownBy w' (some g) := by
  have hg := ht.lt
  have HN : Hid (zs.length = 2 ^ m) := hN
  clear hN
  go_enter Try.func20, Try.ntmps20
  go_wp2_with fail
  refine (place_any _ g m zs n hash _ HN.out hN' hn hn' hh hh' (by simp) (ht.kept (heap_alloc_old w _ hg)) hz).mono ?_
  rintro e w' ⟨rfl, d, hfe, hw'⟩
  have hcx : w'.cell? ⟨w.heap.size, 0, none⟩ = some (.slice (some ⟨g, 0, none⟩) zs.length zs.length) := by
    rw [hw', World.cell?_of_block (heap_setCell_other _ _ _ _ (by simp; omega))]
    simp
  have ht' : Tab w' g (zs.set ((hash.toNat + d) % zs.length) (n + 1)) := by
    rw [hw']; exact (ht.kept (heap_alloc_old w _ hg)).set _ _
  have hgr : w.grownBy w' (some g) := by rw [hw']; exact grown_set _ _ _ _ _
  clear hw'
  go_wp2_with fail
  go_ret
  exact ⟨rfl, d, hfe, ht', hgr⟩

/-- The same, the length under a name of its own. -/
theorem zzPlaceN (N g m : Nat) (zs : List Int) (n hash : Int) (w : World) (hzl : zs.length = N)
    (hN : N = 2 ^ m) (hN' : N ≤ 1048576) (hn : 0 ≤ n) (hn' : n < 4294967295) (hh : 0 ≤ hash) (hh' : hash < 18446744073709551616)
    (ht : Tab w g zs) (hz : 0 < zeros zs) :
    Calls Try.prog 20 #[.slice (some ⟨g, 0, none⟩) N N, .int .u32 n, .int .u64 hash] w fun e w' =>
      e = .returned (.slice (some ⟨g, 0, none⟩) N N) ∧ ∃ d, FE zs hash.toNat d ∧ Tab w' g (zs.set ((hash.toNat + d) % N) (n + 1)) ∧ w.grownBy w' (some g) := by
  subst hzl
  exact zzPlace g m zs n hash w hN hN' hn hn' hh hh' ht hz

theorem zerosN (N b off cap : Nat) (zs : List Int) (w : World) (hzl : zs.length = N) (hl : N ≤ 281474976710656)
    (hc : ∀ i, i < N → w.cell? ⟨b, off + i, none⟩ = some (.int .u32 (zs.getD i 0))) :
    Calls Try.prog 18 #[.slice (some ⟨b, off, none⟩) N cap] w fun e w' => e = .returned (.int .i64 (zeros zs)) ∧ w' = w := by
  subst hzl
  exact zeros_any b off cap zs w hl hc

theorem cloneN (N b off cap : Nat) (zs : List Int) (w : World) (hzl : zs.length = N) (hl : N ≤ 1048576) (hb : b < w.heap.size)
    (hc : ∀ i, i < N → w.cell? ⟨b, off + i, none⟩ = some (.int .u32 (zs.getD i 0))) :
    Calls Try.prog 19 #[.slice (some ⟨b, off, none⟩) N cap] w fun e w' => e = .returned (.slice (some ⟨w.heap.size, 0, none⟩) N N) ∧ Tab w' w.heap.size zs ∧ Below w.heap.size w w' := by
  subst hzl
  exact clone_any b off cap zs w hl hb hc

theorem Tab.cellN {w : World} {g N : Nat} {zs : List Int} (h : Tab w g zs) (hl : zs.length = N) : ∀ i, i < N → w.cell? ⟨g, 0 + i, none⟩ = some (.int .u32 (zs.getD i 0)) := by
  intro i hi
  rw [Nat.zero_add]
  exact h.cell i (by omega)

end Go.Proofs.Qxb6001005a.Place
