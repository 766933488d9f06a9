/-
  PLAIN LAWS OF THIS SEAT: no Go in sight. The zigzag round a circle of points, the ring's order, and what the laws say of it.
-/
namespace Go.Proofs.Qxb6001298a.Plain

/-! ### the points -/
/-- How many points, for n members. -/
def pts (n : Nat) : Nat := if n = 4 then 6 else (n - 1) + (n - 1) % 2
/-- How far apart the members lie on them. -/
def spr (n : Nat) : Nat := if n = 4 then 2 else 1

theorem pts_even (n : Nat) : pts n % 2 = 0 := by unfold pts; split <;> omega
theorem pts_pos (n : Nat) (h : 2 ≤ n) : 2 ≤ pts n := by unfold pts; split <;> omega
theorem pts_le (n : Nat) (h : 2 ≤ n) : pts n ≤ n + 2 := by unfold pts; split <;> omega
theorem spr_cases (n : Nat) : (n = 4 ∧ spr n = 2 ∧ pts n = 6) ∨ (n ≠ 4 ∧ spr n = 1 ∧ pts n = (n - 1) + (n - 1) % 2) := by
  unfold spr pts
  by_cases h : n = 4
  · simp [h]
  · simp [h]

/-- The i-th point of the zigzag from p round N points: p, p+1, p-1, p+2, p-2 .. -/
def zz (N p i : Nat) : Nat :=
  if i % 2 = 1 then (if p + (i + 1) / 2 < N then p + (i + 1) / 2 else p + (i + 1) / 2 - N)
  else (if i / 2 ≤ p then p - i / 2 else p + N - i / 2)

/-- The place of point q in the zigzag from p. -/
def zp (N p q : Nat) : Nat :=
  if q = p then 0
  else if p ≤ q then (if q - p ≤ N / 2 then 2 * (q - p) - 1 else 2 * (N - (q - p)))
  else (if q + N - p ≤ N / 2 then 2 * (q + N - p) - 1 else 2 * (N - (q + N - p)))

theorem zz_lt (N p i : Nat) (hN : N % 2 = 0) (hp : p < N) (hi : i < N) : zz N p i < N := by
  unfold zz; repeat' split
  all_goals omega

theorem zp_lt (N p q : Nat) (hN : N % 2 = 0) (hp : p < N) (hq : q < N) : zp N p q < N := by
  unfold zp; repeat' split
  all_goals omega

theorem zp_zz (N p i : Nat) (hN : N % 2 = 0) (hp : p < N) (hi : i < N) : zp N p (zz N p i) = i := by
  unfold zz zp; repeat' split
  all_goals omega

theorem zz_zp (N p q : Nat) (hN : N % 2 = 0) (hp : p < N) (hq : q < N) : zz N p (zp N p q) = q := by
  unfold zp zz; repeat' split
  all_goals omega

/-! ### the members on the points -/
def sel (n q : Nat) : Option Nat := if q % spr n = 0 ∧ 1 + q / spr n < n then some (1 + q / spr n) else none

theorem sel_some {n q m : Nat} (h : sel n q = some m) : 1 ≤ m ∧ m < n ∧ q = spr n * (m - 1) := by
  unfold sel at h
  split at h
  · rename_i hc
    obtain ⟨h1, h2⟩ := hc
    injection h with h
    subst h
    refine ⟨Nat.le_add_right _ _, h2, ?_⟩
    rcases spr_cases n with ⟨_, e, _⟩ | ⟨_, e, _⟩ <;> rw [e] at h1 ⊢ <;> omega
  · cases h

theorem sel_of {n m : Nat} (h1 : 1 ≤ m) (h2 : m < n) : sel n (spr n * (m - 1)) = some m ∧ spr n * (m - 1) < pts n := by
  unfold sel
  rcases spr_cases n with ⟨e0, e, e1⟩ | ⟨e0, e, e1⟩ <;> rw [e, e1]
  · refine ⟨?_, by omega⟩
    rw [if_pos (by omega)]; congr 1; omega
  · refine ⟨?_, by omega⟩
    rw [if_pos (by omega)]; congr 1; omega

/-- The members that the zigzag has met behind k points. -/
def tour (n p k : Nat) : List Nat := (List.range k).filterMap (fun i => sel n (zz (pts n) p i))
/-- The order of a turn whose point is p. -/
def ring (n p : Nat) : List Nat := 0 :: tour n p (pts n)

theorem tour_succ (n p k : Nat) : tour n p (k + 1) = tour n p k ++ (sel n (zz (pts n) p k)).toList := by
  unfold tour
  rw [List.range_succ, List.filterMap_append]
  congr 1

theorem tour_len (n p k : Nat) : (tour n p k).length ≤ k := by
  unfold tour
  exact Nat.le_trans (List.length_filterMap_le _ _) (by simp)

/-- A member's place, as a number that rises along the ring. -/
def key (n p m : Nat) : Nat := if m = 0 then 0 else 1 + zp (pts n) p (spr n * (m - 1))

theorem mem_tour {n p m : Nat} (hp : p < pts n) : m ∈ tour n p (pts n) ↔ 1 ≤ m ∧ m < n := by
  unfold tour
  rw [List.mem_filterMap]
  constructor
  · rintro ⟨i, _, h⟩
    have := sel_some h
    omega
  · rintro ⟨h1, h2⟩
    obtain ⟨s1, s2⟩ := sel_of h1 h2
    refine ⟨zp (pts n) p (spr n * (m - 1)), ?_, ?_⟩
    · rw [List.mem_range]
      exact zp_lt _ _ _ (pts_even n) hp s2
    · rw [zz_zp _ _ _ (pts_even n) hp s2]
      exact s1

theorem mem_ring {n p m : Nat} (hn : 2 ≤ n) (hp : p < pts n) : m ∈ ring n p ↔ m < n := by
  unfold ring
  rw [List.mem_cons, mem_tour hp]
  omega

theorem ring_sorted {n p : Nat} (hp : p < pts n) : (ring n p).Pairwise (fun a b => key n p a < key n p b) := by
  unfold ring
  rw [List.pairwise_cons]
  constructor
  · intro m hm
    have := (mem_tour hp).1 hm
    unfold key
    rw [if_pos rfl, if_neg (by omega)]
    omega
  · unfold tour
    rw [List.pairwise_filterMap]
    refine List.Pairwise.imp_of_mem ?_ (List.pairwise_lt_range (n := pts n))
    intro i j hi hj hij m hm m' hm'
    have hi := List.mem_range.1 hi
    have hj := List.mem_range.1 hj
    obtain ⟨a1, a2, a3⟩ := sel_some hm
    obtain ⟨b1, b2, b3⟩ := sel_some hm'
    have e1 := zp_zz (pts n) p i (pts_even n) hp hi
    have e2 := zp_zz (pts n) p j (pts_even n) hp hj
    rw [a3] at e1
    rw [b3] at e2
    unfold key
    rw [if_neg (by omega), if_neg (by omega), e1, e2]
    omega

theorem ring_nodup {n p : Nat} (hp : p < pts n) : (ring n p).Nodup := by
  refine List.Pairwise.imp ?_ (ring_sorted hp)
  intro a b h e
  subst e
  omega

theorem length_le_of_subset {α : Type} [DecidableEq α] : ∀ (l1 l2 : List α), l1.Nodup → (∀ x, x ∈ l1 → x ∈ l2) → l1.length ≤ l2.length
  | [], _, _, _ => Nat.zero_le _
  | x :: xs, l2, hn, hs => by
    rw [List.nodup_cons] at hn
    have hx := hs x (List.mem_cons_self ..)
    have := length_le_of_subset xs (l2.erase x) hn.2 (fun y hy => (List.mem_erase_of_ne (fun (e : y = x) => hn.1 (by rw [← e]; exact hy))).2 (hs y (List.mem_cons_of_mem _ hy)))
    rw [List.length_erase_of_mem hx] at this
    have := List.length_pos_of_mem hx
    simp only [List.length_cons]
    omega

theorem ring_length {n p : Nat} (hn : 2 ≤ n) (hp : p < pts n) : (ring n p).length = n := by
  have h1 := length_le_of_subset (ring n p) (List.range n) (ring_nodup hp) (fun x hx => List.mem_range.2 ((mem_ring hn hp).1 hx))
  have h2 := length_le_of_subset (List.range n) (ring n p) List.nodup_range (fun x hx => (mem_ring hn hp).2 (List.mem_range.1 hx))
  rw [List.length_range] at h1 h2
  omega

/-- the next turn's point -/
def nxt (N p : Nat) : Nat := if p + 1 < N then p + 1 else 0
/-- how far on q lies from p -/
def far (N p q : Nat) : Nat := if p ≤ q then q - p else q + N - p
/-- the point k before p -/
def bef (N p k : Nat) : Nat := if k ≤ p then p - k else p + N - k

def zd (N d : Nat) : Nat := if d = 0 then 0 else if d ≤ N / 2 then 2 * d - 1 else 2 * (N - d)

theorem zp_far (N p q : Nat) (hp : p < N) (_hq : q < N) : zp N p q = zd N (far N p q) := by
  unfold zp zd far
  repeat' split
  all_goals omega

theorem far_nxt (N p q : Nat) (hp : p < N) (hq : q < N) : far N (nxt N p) q = if far N p q = 0 then N - 1 else far N p q - 1 := by
  unfold far nxt
  repeat' split
  all_goals omega

theorem bef_far (N p q k : Nat) (hp : p < N) (hq : q < N) (hk : k < N) (h : far N p q = if k = 0 then 0 else N - k) : q = bef N p k := by
  unfold far at h; unfold bef
  repeat' split at h
  all_goals (split <;> omega)

theorem pass_d (N dx dy : Nat) (hN : N % 2 = 0) (hN2 : 2 ≤ N) (hx : dx < N) (hy : dy < N) (h1 : zd N dy < zd N dx)
    (h2 : zd N (if dx = 0 then N - 1 else dx - 1) < zd N (if dy = 0 then N - 1 else dy - 1)) :
    dx ≠ 0 ∧ ((dy = if dx - 1 = 0 then 0 else N - (dx - 1)) ∨ (dy = if dx - 2 = 0 then 0 else N - (dx - 2))) := by
  unfold zd at h1 h2
  repeat' split at h1
  all_goals (repeat' split at h2)
  all_goals (first | omega | (refine ⟨by omega, ?_⟩; repeat' split) ; all_goals omega)

theorem far_lt (N p q : Nat) (hp : p < N) (hq : q < N) : far N p q < N := by unfold far; split <;> omega

theorem pass (N p qx qy : Nat) (hN : N % 2 = 0) (hN2 : 2 ≤ N) (hp : p < N) (hx : qx < N) (hy : qy < N)
    (h1 : zp N p qy < zp N p qx) (h2 : zp N (nxt N p) qx < zp N (nxt N p) qy) :
    qy = bef N p (far N p qx - 1) ∨ qy = bef N p (far N p qx - 2) := by
  have hn : nxt N p < N := by unfold nxt; split <;> omega
  rw [zp_far N p qy hp hy, zp_far N p qx hp hx] at h1
  rw [zp_far N _ qy hn hy, zp_far N _ qx hn hx, far_nxt N p qx hp hx, far_nxt N p qy hp hy] at h2
  have lx := far_lt N p qx hp hx
  have ly := far_lt N p qy hp hy
  obtain ⟨h0, h | h⟩ := pass_d N _ _ hN hN2 lx ly h1 h2
  · exact Or.inl (bef_far N p qy _ hp hy (by omega) h)
  · exact Or.inr (bef_far N p qy _ hp hy (by omega) h)

/-! ### how many move behind -/
theorem count_two (P : Nat → Bool) (a b : Nat) (n : Nat) (h : ∀ y, y < n → P y = true → y = a ∨ y = b) : (List.range n).countP P ≤ 2 := by
  have key : ∀ k, k ≤ n → (List.range k).countP P ≤ (if a < k then 1 else 0) + (if b < k then 1 else 0) := by
    intro k
    induction k with
    | zero => simp
    | succ k ih =>
      intro hk
      have := ih (by omega)
      rw [List.range_succ, List.countP_append, List.countP_singleton]
      by_cases hP : P k = true
      · rw [if_pos hP]
        rcases h k (by omega) hP with e | e
        · subst e
          rw [if_neg (by omega)] at this
          rw [if_pos (by omega)]
          split <;> split at this <;> omega
        · subst e
          rw [if_neg (show ¬ k < k by omega)] at this
          rw [if_pos (show k < k + 1 by omega)]
          split <;> split at this <;> omega
      · rw [if_neg hP]
        split <;> split at this <;> (try split) <;> (try split at this) <;> omega
  have := key n (Nat.le_refl _)
  split at this <;> split at this <;> omega

theorem count_one (P : Nat → Bool) (a : Nat) (n : Nat) (h : ∀ y, y < n → P y = true → y = a) : (List.range n).countP P ≤ 1 := by
  have key : ∀ k, k ≤ n → (List.range k).countP P ≤ (if a < k then 1 else 0) := by
    intro k
    induction k with
    | zero => simp
    | succ k ih =>
      intro hk
      have := ih (by omega)
      rw [List.range_succ, List.countP_append, List.countP_singleton]
      by_cases hP : P k = true
      · rw [if_pos hP]
        have e := h k (by omega) hP
        subst e
        rw [if_neg (by omega)] at this
        rw [if_pos (by omega)]
        omega
      · rw [if_neg hP]
        split <;> split at this <;> omega
  have := key n (Nat.le_refl _)
  split at this <;> omega

/-- The members that move behind x lie on one of two points. -/
theorem behind {n p x y : Nat} (hn : 2 ≤ n) (hp : p < pts n) (hx : x < n) (hy : y < n)
    (h1 : key n p y < key n p x) (h2 : key n (nxt (pts n) p) x < key n (nxt (pts n) p) y) :
    1 ≤ y ∧ (spr n * (y - 1) = bef (pts n) p (far (pts n) p (spr n * (x - 1)) - 1) ∨ spr n * (y - 1) = bef (pts n) p (far (pts n) p (spr n * (x - 1)) - 2)) := by
  unfold key at h1 h2
  have hx0 : x ≠ 0 := by
    intro e; rw [if_pos e] at h1; omega
  have hy0 : y ≠ 0 := by
    intro e; rw [if_pos e] at h2; omega
  rw [if_neg hx0, if_neg hy0] at h1 h2
  have sx := (sel_of (n := n) (show 1 ≤ x by omega) hx).2
  have sy := (sel_of (n := n) (show 1 ≤ y by omega) hy).2
  exact ⟨by omega, pass _ _ _ _ (pts_even n) (pts_pos n hn) hp sx sy (by omega) (by omega)⟩

/-- The most that may move behind one member. -/
def lim (n : Nat) : Nat := if n = 4 then 1 else 2

theorem bef_next (N p k : Nat) (hN : N % 2 = 0) (_hp : p < N) (hk : 2 ≤ k) (hk2 : k < N) : (bef N p (k - 1) + bef N p (k - 2)) % 2 = 1 := by
  unfold bef
  repeat' split
  all_goals omega

theorem count_behind {n p x : Nat} (hn : 2 ≤ n) (hp : p < pts n) (hx : x < n) (P : Nat → Bool)
    (hP : ∀ y, y < n → P y = true → key n p y < key n p x ∧ key n (nxt (pts n) p) x < key n (nxt (pts n) p) y) : (List.range n).countP P ≤ lim n := by
  unfold lim
  rcases spr_cases n with ⟨e0, e, e1⟩ | ⟨e0, e, e1⟩
  · rw [if_pos e0]
    have H : ∀ y, y < n → P y = true → 1 ≤ y ∧ (2 * (y - 1) = bef 6 p (far 6 p (2 * (x - 1)) - 1) ∨ 2 * (y - 1) = bef 6 p (far 6 p (2 * (x - 1)) - 2)) := by
      intro y hy hPy
      obtain ⟨a, b⟩ := hP y hy hPy
      have := behind hn hp hx hy a b
      rwa [e, e1] at this
    rw [e1] at hp
    generalize hk : far 6 p (2 * (x - 1)) = k at H
    have hkl : k < 6 := by rw [← hk]; exact far_lt _ _ _ hp (by omega)
    by_cases h2 : 2 ≤ k
    · have hb := bef_next 6 p k (by decide) hp h2 hkl
      by_cases hev : bef 6 p (k - 1) % 2 = 0
      · refine count_one P (bef 6 p (k - 1) / 2 + 1) n fun y hy hPy => ?_
        obtain ⟨y1, h | h⟩ := H y hy hPy <;> omega
      · refine count_one P (bef 6 p (k - 2) / 2 + 1) n fun y hy hPy => ?_
        obtain ⟨y1, h | h⟩ := H y hy hPy <;> omega
    · have : k - 1 = 0 ∧ k - 2 = 0 := by omega
      rw [this.1, this.2] at H
      refine count_one P (bef 6 p 0 / 2 + 1) n fun y hy hPy => ?_
      obtain ⟨y1, h | h⟩ := H y hy hPy <;> omega
  · rw [if_neg e0]
    refine count_two P (bef (pts n) p (far (pts n) p (spr n * (x - 1)) - 1) + 1) (bef (pts n) p (far (pts n) p (spr n * (x - 1)) - 2) + 1) n fun y hy hPy => ?_
    obtain ⟨a, b⟩ := hP y hy hPy
    obtain ⟨y1, h | h⟩ := behind hn hp hx hy a b
    · left; rw [← h, e]; omega
    · right; rw [← h, e]; omega

/-! ### places -/
theorem mem_at {l : List Nat} {a : Nat} (h : a ∈ l) : ∃ i, i < l.length ∧ l.getD i 0 = a := by
  obtain ⟨i, hi, e⟩ := List.mem_iff_getElem.1 h
  exact ⟨i, hi, by simp [hi, e]⟩

/-- What holds each member's place tells the order of the keys. -/
theorem pos_key {n p a b : Nat} {P : List Int} (hn : 2 ≤ n) (hp : p < pts n) (hP : ∀ i, i < n → P.getD ((ring n p).getD i 0) 0 = (i : Int))
    (ha : a < n) (hb : b < n) (h : P.getD a 0 < P.getD b 0) : key n p a < key n p b := by
  have hl := ring_length hn hp
  obtain ⟨i, hi, ei⟩ := mem_at ((mem_ring hn hp).2 ha)
  obtain ⟨j, hj, ej⟩ := mem_at ((mem_ring hn hp).2 hb)
  have h1 := hP i (by omega)
  have h2 := hP j (by omega)
  rw [ei] at h1
  rw [ej] at h2
  have hij : i < j := by omega
  have := List.pairwise_iff_getElem.1 (ring_sorted hp) i j hi hj hij
  have e1 : (ring n p)[i] = a := by simpa [hi] using ei
  have e2 : (ring n p)[j] = b := by simpa [hj] using ej
  rwa [e1, e2] at this

/-! ### every link both ways -/
theorem tour_prefix (n p k d : Nat) : ∃ t, tour n p (k + d) = tour n p k ++ t := by
  induction d with
  | zero => exact ⟨[], by simp⟩
  | succ d ih =>
    obtain ⟨t, ht⟩ := ih
    exact ⟨t ++ (sel n (zz (pts n) p (k + d))).toList, by rw [← Nat.add_assoc, tour_succ, ht, List.append_assoc]⟩

theorem getD_right (l1 l2 : List Nat) (i : Nat) (h : l1.length ≤ i) : (l1 ++ l2).getD i 0 = l2.getD (i - l1.length) 0 := by
  rw [List.getD_eq_getElem?_getD, List.getElem?_append_right h, ← List.getD_eq_getElem?_getD]

/-- b comes right behind a, read round the ring. -/
def Link (n p a b : Nat) : Prop := ∃ j, j < n ∧ (ring n p).getD j 0 = a ∧ (ring n p).getD ((j + 1) % n) 0 = b

theorem link_step {n p i a b : Nat} (hn : 2 ≤ n) (hp : p < pts n) (hi : i + 1 < pts n) (ha : sel n (zz (pts n) p i) = some a) (hb : sel n (zz (pts n) p (i + 1)) = some b) : Link n p a b := by
  obtain ⟨t, ht⟩ := tour_prefix n p (i + 1 + 1) (pts n - (i + 1 + 1))
  rw [show i + 1 + 1 + (pts n - (i + 1 + 1)) = pts n by omega, tour_succ, tour_succ, ha, hb] at ht
  have hr : ring n p = 0 :: tour n p i ++ (a :: b :: t) := by unfold ring; rw [ht]; simp
  have hl := ring_length hn hp
  have hl2 : (tour n p i).length + 1 + (t.length + 2) = n := by
    have h := hl
    rw [hr] at h
    simp at h
    omega
  refine ⟨(tour n p i).length + 1, by omega, ?_, ?_⟩
  · rw [hr, getD_right _ _ _ (by simp)]; simp
  · rw [Nat.mod_eq_of_lt (by omega), hr, getD_right _ _ _ (by simp)]; simp

theorem link_first {n p b : Nat} (hn : 2 ≤ n) (hb : sel n (zz (pts n) p 0) = some b) : Link n p 0 b := by
  obtain ⟨t, ht⟩ := tour_prefix n p (0 + 1) (pts n - 1)
  have h2 := pts_pos n hn
  rw [show 0 + 1 + (pts n - 1) = pts n by omega, tour_succ, hb] at ht
  have hr : ring n p = 0 :: b :: t := by unfold ring; rw [ht]; simp [tour]
  refine ⟨0, by omega, ?_, ?_⟩
  · rw [hr]; simp
  · rw [Nat.mod_eq_of_lt (by omega), hr]; simp

theorem link_last {n p a : Nat} (hn : 2 ≤ n) (hp : p < pts n) (ha : sel n (zz (pts n) p (pts n - 1)) = some a) : Link n p a 0 := by
  have h2 := pts_pos n hn
  have ht := tour_succ n p (pts n - 1)
  rw [show pts n - 1 + 1 = pts n by omega, ha] at ht
  have hr : ring n p = 0 :: tour n p (pts n - 1) ++ [a] := by unfold ring; rw [ht]; simp
  have hl := ring_length hn hp
  have hl2 : (tour n p (pts n - 1)).length + 1 + 1 = n := by
    have h := hl
    rw [hr] at h
    simpa using h
  refine ⟨n - 1, by omega, ?_, ?_⟩
  · rw [hr, getD_right _ _ _ (by simp; omega)]
    simp [show n - 1 - ((tour n p (pts n - 1)).length + 1) = 0 by omega]
  · rw [show n - 1 + 1 = n by omega, Nat.mod_self, hr]; simp

theorem zz_zero (N p : Nat) : zz N p 0 = p := by simp [zz]

theorem zz_last (N q : Nat) (hN : N % 2 = 0) (hN2 : 2 ≤ N) (hq : q < N) : ∃ p, p < N ∧ zz N p (N - 1) = q := by
  refine ⟨if N / 2 ≤ q then q - N / 2 else q + N - N / 2, ?_, ?_⟩
  · split <;> omega
  · unfold zz
    repeat' split
    all_goals omega

theorem zz_step (N x y : Nat) (hN : N % 2 = 0) (hx : x < N) (hy : y < N) (hne : x ≠ y) : ∃ p i, p < N ∧ i + 1 < N ∧ zz N p i = x ∧ zz N p (i + 1) = y := by
  have hd : far N x y < N := far_lt N x y hx hy
  have hc : x + far N x y = y ∨ x + far N x y = y + N := by unfold far; split <;> omega
  generalize far N x y = D at hd hc
  by_cases ho : D % 2 = 1
  · refine ⟨if x + (D - 1) / 2 < N then x + (D - 1) / 2 else x + (D - 1) / 2 - N, D - 1, ?_, by omega, ?_, ?_⟩
    · split <;> omega
    · unfold zz; repeat' split
      all_goals omega
    · unfold zz; repeat' split
      all_goals omega
  · refine ⟨bef N x ((N - D) / 2), N - D - 1, ?_, by omega, ?_, ?_⟩
    · unfold bef; split <;> omega
    · unfold zz bef; repeat' split
      all_goals omega
    · unfold zz bef; repeat' split
      all_goals omega

theorem links_four : ∀ a, a < 4 → ∀ b, b < 4 → a ≠ b → ∃ p, p < 6 ∧ ∃ j, j < 4 ∧ (ring 4 p).getD j 0 = a ∧ (ring 4 p).getD ((j + 1) % 4) 0 = b := by decide

/-- EVERY LINK, BOTH WAYS, IS ON SOME TURN's RING. -/
theorem links {n a b : Nat} (hn : 2 ≤ n) (ha : a < n) (hb : b < n) (hab : a ≠ b) : ∃ p, p < pts n ∧ Link n p a b := by
  have hN := pts_even n
  have h2 := pts_pos n hn
  rcases spr_cases n with ⟨e0, e, e1⟩ | ⟨e0, e, e1⟩
  · subst e0
    rw [e1]
    exact links_four a ha b hb hab
  · by_cases ha0 : a = 0
    · subst ha0
      obtain ⟨s1, s2⟩ := sel_of (n := n) (show 1 ≤ b by omega) hb
      exact ⟨_, s2, link_first hn (by rw [zz_zero]; exact s1)⟩
    · obtain ⟨s1, s2⟩ := sel_of (n := n) (show 1 ≤ a by omega) ha
      by_cases hb0 : b = 0
      · subst hb0
        obtain ⟨p, hp, hz⟩ := zz_last (pts n) _ hN h2 s2
        exact ⟨p, hp, link_last hn hp (by rw [hz]; exact s1)⟩
      · obtain ⟨r1, r2⟩ := sel_of (n := n) (show 1 ≤ b by omega) hb
        obtain ⟨p, i, hp, hi, z1, z2⟩ := zz_step (pts n) _ _ hN s2 r2 (by rw [e]; omega)
        exact ⟨p, hp, link_step hn hp hi (by rw [z1]; exact s1) (by rw [z2]; exact r1)⟩

/-- Any pts n turns in a row come to every point. -/
theorem turn_of (n start p : Nat) (hn : 2 ≤ n) (hp : p < pts n) : ∃ t, t < n + 6 ∧ (start + t) % pts n = p := by
  have h2 := pts_pos n hn
  have h3 := pts_le n hn
  have hm := Nat.mod_lt start (show 0 < pts n by omega)
  refine ⟨far (pts n) (start % pts n) p, ?_, ?_⟩
  · have := far_lt (pts n) (start % pts n) p hm hp
    omega
  · rw [← Nat.mod_add_mod]
    generalize start % pts n = s at *
    unfold far
    split
    · rw [show s + (p - s) = p by omega, Nat.mod_eq_of_lt hp]
    · rw [show s + (p + pts n - s) = p + pts n by omega, Nat.add_mod_right, Nat.mod_eq_of_lt hp]

end Go.Proofs.Qxb6001298a.Plain
