/-
  THE PLAIN LAW: what unfencedSince tells of a message and of the same message with one more report relayed.
-/
import Derived.Test.Qxb6001298aMake
namespace Go.Proofs.Qxb6001298a
open Go.RowKit
set_option linter.unusedVariables false

section
variable {K : Type} [DecidableEq K]

theorem lookR_updR_same (l : List (K × Rec)) (k : K) (v : Rec) : lookR (updR l k v) k = some v := by
  induction l with
  | nil => simp [lookR, updR]
  | cons p l ih =>
    by_cases h : p.1 = k
    · simp [lookR, updR, h]
    · simp only [updR, h, if_false]
      have : lookR (p :: updR l k v) k = lookR (updR l k v) k := by simp [lookR, h]
      rw [this, ih]

theorem lookR_updR_other (l : List (K × Rec)) (k j : K) (v : Rec) (hne : k ≠ j) : lookR (updR l k v) j = lookR l j := by
  induction l with
  | nil => simp [lookR, updR, hne]
  | cons p l ih =>
    by_cases h : p.1 = k
    · subst h
      simp [lookR, updR, hne]
    · simp only [updR, h, if_false]
      by_cases h2 : p.1 = j
      · simp [lookR, h2]
      · have e1 : lookR (p :: updR l k v) j = lookR (updR l k v) j := by simp [lookR, h2]
        have e2 : lookR (p :: l) j = lookR l j := by simp [lookR, h2]
        rw [e1, e2, ih]

theorem updR_new (l : List (K × Rec)) (k : K) (v : Rec) (h : ∀ p ∈ l, p.1 ≠ k) : updR l k v = l ++ [(k, v)] := by
  induction l with
  | nil => rfl
  | cons p l ih =>
    simp only [updR, h p (List.mem_cons_self ..), if_false, List.cons_append]
    rw [ih fun q hq => h q (List.mem_cons_of_mem _ hq)]

theorem lookR_none (l : List (K × Rec)) (k : K) (h : ∀ p ∈ l, p.1 ≠ k) : lookR l k = none := by
  simp only [lookR, Option.map_eq_none_iff, List.find?_eq_none, decide_eq_true_eq]
  exact h

theorem updR_keys (l : List (K × Rec)) (k : K) (v : Rec) (P : K → Prop) (h : ∀ p ∈ l, P p.1) (hk : P k) : ∀ p ∈ updR l k v, P p.1 := by
  induction l with
  | nil => intro p hp; simp only [updR, List.mem_singleton] at hp; rw [hp]; exact hk
  | cons q l ih =>
    intro p hp
    by_cases e : q.1 = k
    · simp only [updR, e, if_true, List.mem_cons] at hp
      rcases hp with rfl | hp
      · exact hk
      · exact h p (List.mem_cons_of_mem _ hp)
    · simp only [updR, e, if_false, List.mem_cons] at hp
      rcases hp with rfl | hp
      · exact h p (List.mem_cons_self ..)
      · exact ih (fun q hq => h q (List.mem_cons_of_mem _ hq)) p hp
end

namespace MsgW
theorem tells_keys (nl : List (ByteArray × Rec)) (q : Rep) (rs : List Rep) : ∀ i, ∀ p ∈ tells nl q rs i, p.1 ≤ (i : Int)
  | 0 => by
    intro p hp
    simp only [tells, tellL] at hp
    split at hp
    · cases hp
    · simp only [updR, List.mem_singleton] at hp
      rw [hp]
      exact Int.le_refl _
  | i + 1 => by
    have ih := tells_keys nl q rs i
    intro p hp
    simp only [tells, tellL] at hp
    split at hp
    · have := ih p hp; omega
    · exact updR_keys _ _ _ (fun k => k ≤ ((i + 1 : Nat) : Int)) (fun p hp => by have := ih p hp; omega) (by omega) p hp

theorem tells_snoc (nl : List (ByteArray × Rec)) (q x : Rep) (rs : List Rep) : ∀ i, i ≤ rs.length → tells nl q (rs ++ [x]) i = tells nl q rs i
  | 0, _ => rfl
  | i + 1, h => by
    simp only [tells]
    rw [tells_snoc nl q x rs i (by omega)]
    congr 1
    simp [List.getD, List.getElem?_append_left (show i < rs.length by omega)]

/-- With one more report relayed: what was told stands; the new place is told where the report's record is not the one held. -/
theorem tells_more (nl : List (ByteArray × Rec)) (q x : Rep) (rs : List Rep) :
    tells nl q (rs ++ [x]) (rs.length + 1) = if req x.2 (held nl x.1) = true then tells nl q rs rs.length else tells nl q rs rs.length ++ [((rs.length : Int) + 1, x.2)] := by
  have hx : (rs ++ [x]).getD rs.length (⟨#[]⟩, zeroRec) = x := by simp [List.getD]
  show tellL nl (tells nl q (rs ++ [x]) rs.length) ((rs.length : Int) + 1) ((rs ++ [x]).getD rs.length (⟨#[]⟩, zeroRec)) = _
  rw [hx, tells_snoc nl q x rs rs.length (Nat.le_refl _), tellL]
  split
  · rfl
  · exact updR_new _ _ _ fun p hp => by have := tells_keys nl q rs rs.length p hp; omega

theorem more_old (nl : List (ByteArray × Rec)) (q x : Rep) (rs : List Rep) (k : Int) (hk : k ≤ rs.length) : lookR (tells nl q (rs ++ [x]) (rs.length + 1)) k = lookR (tells nl q rs rs.length) k := by
  rw [tells_more]
  split
  · rfl
  · rw [← updR_new _ _ _ fun p hp => by have := tells_keys nl q rs rs.length p hp; omega]
    exact lookR_updR_other _ _ _ _ (by omega)

theorem more_new (nl : List (ByteArray × Rec)) (q x : Rep) (rs : List Rep) : lookR (tells nl q (rs ++ [x]) (rs.length + 1)) ((rs.length : Int) + 1) = if req x.2 (held nl x.1) = true then none else some x.2 := by
  rw [tells_more]
  split
  · exact lookR_none _ _ fun p hp => by have := tells_keys nl q rs rs.length p hp; omega
  · rw [← updR_new _ _ _ fun p hp => by have := tells_keys nl q rs rs.length p hp; omega]
    exact lookR_updR_same _ _ _

theorem more_len (nl : List (ByteArray × Rec)) (q x : Rep) (rs : List Rep) : (tells nl q (rs ++ [x]) (rs.length + 1)).length = if req x.2 (held nl x.1) = true then (tells nl q rs rs.length).length else (tells nl q rs rs.length).length + 1 := by
  rw [tells_more]
  split <;> simp

/-! ### what the law reads of the two maps -/
theorem SinceAt.look {w : World} {B : Nat} {v : Value} {l : List (Int × Rec)} (h : SinceAt w B v l) (k : Int) :
    (Instr.lookup 69 v (.int .u64 k) true).run Try.prog w = .ok (.tuple #[.agg (recC (held l k)).toArray, .bool (lookR l k).isSome]) w := by
  have e := held_vals l k
  rcases h with ⟨rfl, rfl⟩ | ⟨r, rfl, _, h3⟩
  · exact MapW.look69_nil w k
  · rw [lookL_vals] at e
    rw [MapW.look69 w r _ k h3, lookL_vals, e, Option.isSome_map]
    rfl

theorem SinceAt.len {w : World} {B : Nat} {v : Value} {l : List (Int × Rec)} (h : SinceAt w B v l) (ty : TypeId) :
    (Builtin.len_ #[69] ty #[v]).run Try.prog w = .ok (.int .i64 l.length) w := by
  rcases h with ⟨rfl, rfl⟩ | ⟨r, rfl, _, es, c, h3, h4⟩
  · exact Go.Maps.len_nil (k := 23) (e := 52) Try.underlying69 ty
  · have hl : es.size = l.length := by
      have := congrArg List.length h4
      simpa [valsOf] using this
    have := run_len_map (P := Try.prog) (w := w) 69 ty r es c (by kernel_rfl) h3
    rw [this, hl]
    rfl
end MsgW
end Go.Proofs.Qxb6001298a
