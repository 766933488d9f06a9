/-
  PLAIN LAWS OF THIS SEAT: no Go in sight. (1) 'until' over whole seconds. (2) linear probing: the first empty slot from a home.
-/
namespace Go.Proofs.Qxb6001005a.Plain

/-! ### (1) until -/
/-- a / b rounded up. -/
def cdiv (a b : Int) : Int := if a % b = 0 then a / b else a / b + 1

theorem cdiv_zero (a b : Int) (h : a % b = 0) : cdiv a b = a / b := by simp [cdiv, h]
theorem cdiv_more (a b : Int) (h : ¬ a % b = 0) : cdiv a b = a / b + 1 := by simp [cdiv, h]

theorem div_bounds (a b : Int) (ha : 0 ≤ a) (hb : 1 ≤ b) : 0 ≤ a / b ∧ a / b ≤ a :=
  ⟨Int.ediv_nonneg ha (by omega), Int.ediv_le_self b ha⟩

theorem cdiv_bounds (a b : Int) (ha : 0 ≤ a) (hb : 1 ≤ b) : 0 ≤ cdiv a b ∧ cdiv a b ≤ a := by
  have h := div_bounds a b ha hb
  unfold cdiv
  split
  · exact h
  · rename_i hm
    refine ⟨by omega, ?_⟩
    by_cases hb1 : b = 1
    · subst hb1; omega
    · -- b ≥ 2, a % b ≠ 0 so a ≥ 1 and a / b < a
      have h0 : 0 < a := by
        rcases Int.lt_or_eq_of_le ha with h | h
        · exact h
        · subst h; simp at hm
      have : a / b < a := Int.ediv_lt_of_lt_mul (by omega) (by
        have : a * 1 < a * b := Int.mul_lt_mul_of_pos_left (by omega) h0
        simpa using this)
      omega

/-- what 'until' hands back: the seconds. -/
def secs (micros : Int) : Int := cdiv micros 1000000
/-- and the time. -/
def atT (since micros : Int) : Int := (since - since % 1000000) / 1000000 + cdiv (since % 1000000 + micros) 1000000

theorem atT_shift (since micros k : Int) : atT (since + k * 1000000) micros = atT since micros + k := by
  unfold atT
  have h : (since + k * 1000000) % 1000000 = since % 1000000 := by omega
  rw [h]
  have h2 : (since + k * 1000000 - since % 1000000) / 1000000 = (since - since % 1000000) / 1000000 + k := by omega
  rw [h2]; omega


/-! ### (2) linear probing -/
/-- From h the first empty slot lies d steps on. -/
def FE (zs : List Int) (h d : Nat) : Prop :=
  d < zs.length ∧ zs.getD ((h + d) % zs.length) 0 = 0 ∧ ∀ e, e < d → zs.getD ((h + e) % zs.length) 0 ≠ 0

theorem FE.uniq {zs : List Int} {h d d' : Nat} (a : FE zs h d) (b : FE zs h d') : d = d' := by
  obtain ⟨_, a2, a3⟩ := a
  obtain ⟨_, b2, b3⟩ := b
  rcases Nat.lt_trichotomy d d' with h | h | h
  · exact absurd a2 (b3 d h)
  · exact h
  · exact absurd b2 (a3 d' h)

/-- Only which slots are empty matters. -/
theorem FE.same {zs ys : List Int} {h d : Nat} (a : FE zs h d) (hl : ys.length = zs.length) (hs : ∀ i, i < zs.length → (ys.getD i 0 = 0 ↔ zs.getD i 0 = 0)) : FE ys h d := by
  obtain ⟨a1, a2, a3⟩ := a
  have hp : 0 < zs.length := by omega
  refine ⟨by omega, ?_, ?_⟩
  · rw [hl, hs _ (Nat.mod_lt _ hp)]; exact a2
  · intro e he
    rw [hl, ne_eq, hs _ (Nat.mod_lt _ hp)]; exact a3 e he

theorem getD_set (zs : List Int) (j i : Nat) (v : Int) (hj : j < zs.length) : (zs.set j v).getD i 0 = if j = i then v else zs.getD i 0 := by
  simp only [List.getD_eq_getElem?_getD, List.getElem?_set, hj]
  split <;> simp

/-- Starting d on. -/
theorem FE.shift {zs : List Int} {h d t : Nat} (a : FE zs h (d + t)) : FE zs ((h + d) % zs.length) t := by
  obtain ⟨a1, a2, a3⟩ := a
  refine ⟨by omega, ?_, ?_⟩
  · rw [Nat.mod_add_mod, Nat.add_assoc]; exact a2
  · intro e he
    rw [Nat.mod_add_mod, Nat.add_assoc]; exact a3 (d + e) (by omega)

/-- Another slot was filled: the first empty one stays. -/
theorem FE.other {zs : List Int} {h d j : Nat} {v : Int} (a : FE zs h d) (hj : j < zs.length) (hne : j ≠ (h + d) % zs.length) (hv : v ≠ 0) : FE (zs.set j v) h d := by
  obtain ⟨a1, a2, a3⟩ := a
  refine ⟨by simpa using a1, ?_, ?_⟩
  · rw [List.length_set, getD_set _ _ _ _ hj, if_neg hne]; exact a2
  · intro e he
    rw [List.length_set, getD_set _ _ _ _ hj]
    split
    · exact hv
    · exact a3 e he

/-- The first empty slot itself was filled: the next one lies further on. -/
theorem FE.after {zs : List Int} {h d d' : Nat} {v : Int} (a : FE zs h d) (hv : v ≠ 0) (b : FE (zs.set ((h + d) % zs.length) v) h d') : d < d' := by
  obtain ⟨a1, a2, a3⟩ := a
  obtain ⟨b1, b2, b3⟩ := b
  have hp : 0 < zs.length := by omega
  have hj : (h + d) % zs.length < zs.length := Nat.mod_lt _ hp
  rcases Nat.lt_trichotomy d d' with h1 | h1 | h1
  · exact h1
  · subst h1
    rw [List.length_set, getD_set _ _ _ _ hj, if_pos rfl] at b2
    exact absurd b2 hv
  · rw [List.length_set, getD_set _ _ _ _ hj] at b2
    split at b2
    · exact absurd b2 hv
    · exact absurd b2 (a3 d' h1)

/-- How many slots are empty. -/
def zeros (zs : List Int) : Nat := (zs.filter (· == 0)).length

theorem zeros_le (zs : List Int) : zeros zs ≤ zs.length := List.length_filter_le _ _

theorem zeros_set (zs : List Int) (j : Nat) (v : Int) (hj : j < zs.length) (h0 : zs.getD j 0 = 0) (hv : v ≠ 0) : zeros (zs.set j v) + 1 = zeros zs := by
  induction zs generalizing j with
  | nil => simp at hj
  | cons x xs ih =>
    cases j with
    | zero =>
      simp at h0; subst h0
      simp [zeros, hv]
    | succ j =>
      have := ih j (by simpa using hj) (by simpa using h0)
      simp only [zeros, List.set_cons_succ, List.filter_cons] at this ⊢
      split <;> (try simp only [List.length_cons]) <;> omega

theorem zeros_exists (zs : List Int) (h : 0 < zeros zs) : ∃ i, i < zs.length ∧ zs.getD i 0 = 0 := by
  induction zs with
  | nil => simp [zeros] at h
  | cons x xs ih =>
    by_cases hx : x = 0
    · exact ⟨0, by simp, by simp [hx]⟩
    · have : 0 < zeros xs := by simpa [zeros, hx] using h
      obtain ⟨i, h1, h2⟩ := ih this
      exact ⟨i + 1, by simpa using h1, by simpa using h2⟩

/-- An empty slot is met from every home. -/
theorem met (zs : List Int) (hz : 0 < zeros zs) (h : Nat) : ∃ d, d < zs.length ∧ zs.getD ((h + d) % zs.length) 0 = 0 := by
  obtain ⟨i, h1, h2⟩ := zeros_exists zs hz
  have hp : 0 < zs.length := by omega
  refine ⟨(i + (zs.length - h % zs.length)) % zs.length, Nat.mod_lt _ hp, ?_⟩
  have e : (h + (i + (zs.length - h % zs.length)) % zs.length) % zs.length = i := by
    have hm := Nat.mod_lt h hp
    rw [Nat.add_mod_mod]
    have : h + (i + (zs.length - h % zs.length)) = i + zs.length * (h / zs.length + 1) := by
      have := Nat.div_add_mod h zs.length
      rw [Nat.mul_add]; omega
    rw [this, Nat.add_mul_mod_self_left, Nat.mod_eq_of_lt h1]
  rw [e]; exact h2

/-- Round a circle of N: from d on to d0. -/
theorem dist (N h d d0 : Nat) (h1 : d ≤ d0) (h2 : d0 < N) : ((h + d0) % N + N - (h + d) % N) % N = d0 - d := by
  have hp : 0 < N := by omega
  have ha := Nat.mod_lt (h + d) hp
  have e : (h + d0) % N = ((h + d) % N + (d0 - d)) % N := by rw [Nat.mod_add_mod]; congr 1; omega
  rw [e]
  generalize (h + d) % N = a at *
  by_cases hc : a + (d0 - d) < N
  · rw [Nat.mod_eq_of_lt hc, show a + (d0 - d) + N - a = (d0 - d) + N by omega, Nat.add_mod_right, Nat.mod_eq_of_lt (by omega)]
  · have e2 : (a + (d0 - d)) % N = a + (d0 - d) - N := by rw [Nat.mod_eq_sub_mod (by omega), Nat.mod_eq_of_lt (by omega)]
    rw [e2, show a + (d0 - d) - N + N - a = d0 - d by omega, Nat.mod_eq_of_lt (by omega)]

/-- TWO PLACINGS, IN EITHER ORDER, FILL THE SAME SLOTS. -/
theorem order_free {zs : List Int} {ha hb d1 d2 d3 d4 : Nat} {a b : Int} (a0 : a ≠ 0) (b0 : b ≠ 0)
    (h1 : FE zs ha d1) (h2 : FE (zs.set ((ha + d1) % zs.length) a) hb d2)
    (h3 : FE zs hb d3) (h4 : FE (zs.set ((hb + d3) % zs.length) b) ha d4) (k : Nat) :
    ((zs.set ((ha + d1) % zs.length) a).set ((hb + d2) % zs.length) b).getD k 0 = 0 ↔ ((zs.set ((hb + d3) % zs.length) b).set ((ha + d4) % zs.length) a).getD k 0 = 0 := by
  have hp : 0 < zs.length := by have := h1.1; omega
  have m1 := Nat.mod_lt (ha + d1) hp
  have m2 := Nat.mod_lt (hb + d2) hp
  have m3 := Nat.mod_lt (hb + d3) hp
  have m4 := Nat.mod_lt (ha + d4) hp
  have key : ((ha + d1) % zs.length = (hb + d3) % zs.length ∧ (hb + d2) % zs.length = (ha + d4) % zs.length) ∨ ((ha + d1) % zs.length = (ha + d4) % zs.length ∧ (hb + d2) % zs.length = (hb + d3) % zs.length) := by
    by_cases hj : (ha + d1) % zs.length = (hb + d3) % zs.length
    · left
      refine ⟨hj, ?_⟩
      have l2 : d3 < d2 := h3.after a0 (by rw [← hj]; exact h2)
      have l4 : d1 < d4 := h1.after b0 (by rw [hj]; exact h4)
      have s2 := FE.shift (d := d3) (t := d2 - d3) (zs := zs.set ((ha + d1) % zs.length) a) (h := hb) (by rw [show d3 + (d2 - d3) = d2 by omega]; exact h2)
      have s4 := FE.shift (d := d1) (t := d4 - d1) (zs := zs.set ((hb + d3) % zs.length) b) (h := ha) (by rw [show d1 + (d4 - d1) = d4 by omega]; exact h4)
      rw [List.length_set] at s2 s4
      rw [hj] at s2 s4
      have s4' : FE (zs.set ((hb + d3) % zs.length) a) ((hb + d3) % zs.length) (d4 - d1) := by
        refine s4.same (by simp) ?_
        intro i _
        rw [getD_set _ _ _ _ m3, getD_set _ _ _ _ m3]
        split
        · simp [a0, b0]
        · exact Iff.rfl
      have := s2.uniq s4'
      have e2 : (hb + d2) % zs.length = ((hb + d3) % zs.length + (d2 - d3)) % zs.length := by rw [Nat.mod_add_mod]; congr 1; omega
      have e4 : (ha + d4) % zs.length = ((ha + d1) % zs.length + (d4 - d1)) % zs.length := by rw [Nat.mod_add_mod]; congr 1; omega
      rw [e2, e4, hj, this]
    · right
      have e2 : d2 = d3 := h2.uniq (h3.other m1 hj a0)
      have e4 : d4 = d1 := h4.uniq (h1.other m3 (Ne.symm hj) b0)
      subst e2 e4
      exact ⟨rfl, rfl⟩
  rw [getD_set _ _ _ _ (by simpa using m2), getD_set _ _ _ _ m1, getD_set _ _ _ _ (by simpa using m4), getD_set _ _ _ _ m3]
  rcases key with ⟨e1, e2⟩ | ⟨e1, e2⟩
  · rw [e1, e2]; repeat' split
    all_goals simp_all
  · rw [e1, e2]; repeat' split
    all_goals simp_all

theorem order_zeros {zs : List Int} {ha hb d1 d2 : Nat} {a b : Int} (a0 : a ≠ 0) (b0 : b ≠ 0)
    (h1 : FE zs ha d1) (h2 : FE (zs.set ((ha + d1) % zs.length) a) hb d2) :
    zeros ((zs.set ((ha + d1) % zs.length) a).set ((hb + d2) % zs.length) b) + 2 = zeros zs := by
  have hp : 0 < zs.length := by have := h1.1; omega
  have e1 := zeros_set zs ((ha + d1) % zs.length) a (Nat.mod_lt _ hp) h1.2.1 a0
  have e2 := zeros_set (zs.set ((ha + d1) % zs.length) a) ((hb + d2) % zs.length) b (by simpa using Nat.mod_lt _ hp) (by have := h2.2.1; rwa [List.length_set] at this) b0
  omega

/-- A client with home h is met by probing before an empty slot. -/
def Met (zs : List Int) (h : Nat) (v : Int) : Prop :=
  ∃ d, d < zs.length ∧ zs.getD ((h + d) % zs.length) 0 = v ∧ ∀ e, e < d → zs.getD ((h + e) % zs.length) 0 ≠ 0

theorem Met.new {zs : List Int} {h d : Nat} {v : Int} (a : FE zs h d) : Met (zs.set ((h + d) % zs.length) v) h v := by
  obtain ⟨a1, a2, a3⟩ := a
  have hj := Nat.mod_lt (h + d) (show 0 < zs.length by omega)
  refine ⟨d, by simpa using a1, ?_, ?_⟩
  · rw [List.length_set, getD_set _ _ _ _ hj, if_pos rfl]
  · intro e he
    rw [List.length_set, getD_set _ _ _ _ hj]
    split
    · rename_i heq
      have := a3 e he
      rw [← heq] at this
      exact absurd a2 this
    · exact a3 e he

theorem Met.stays {zs : List Int} {h j : Nat} {v u : Int} (a : Met zs h v) (v0 : v ≠ 0) (hj : j < zs.length) (h0 : zs.getD j 0 = 0) (u0 : u ≠ 0) : Met (zs.set j u) h v := by
  obtain ⟨d, a1, a2, a3⟩ := a
  refine ⟨d, by simpa using a1, ?_, ?_⟩
  · rw [List.length_set, getD_set _ _ _ _ hj]
    split
    · rename_i heq; rw [← heq, h0] at a2; exact absurd a2.symm v0
    · exact a2
  · intro e he
    rw [List.length_set, getD_set _ _ _ _ hj]
    split
    · exact u0
    · exact a3 e he
end Go.Proofs.Qxb6001005a.Plain
