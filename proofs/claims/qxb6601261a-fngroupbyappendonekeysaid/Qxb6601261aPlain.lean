/-
  GROUPING BY COUNTING: THE PLAIN LAW. No Go in sight. The keys are a function f of the place; m keys; the groups are 0 .. n-1.
-/
namespace Go.Proofs.Qxb6601261a.Pl

/-- How many of the first i keys are k. -/
def cnt (f : Nat → Int) (k : Nat) : Nat → Nat
  | 0 => 0
  | i + 1 => cnt f k i + if f i = k then 1 else 0
/-- Where group k starts. -/
def S (f : Nat → Int) (m : Nat) : Nat → Nat
  | 0 => 0
  | k + 1 => S f m k + cnt f k m
/-- How many of the first i keys name a group. -/
def keyed (f : Nat → Int) : Nat → Nat
  | 0 => 0
  | i + 1 => keyed f i + if 0 ≤ f i then 1 else 0

variable {f g : Nat → Int} {m n k i : Nat}

theorem cnt_hit (h : f i = k) : cnt f k (i + 1) = cnt f k i + 1 := by simp [cnt, h]
theorem cnt_miss (h : ¬ f i = k) : cnt f k (i + 1) = cnt f k i := by simp [cnt, h]
theorem cnt_le (f : Nat → Int) (k i : Nat) : cnt f k i ≤ i := by
  induction i with
  | zero => simp [cnt]
  | succ i ih => simp only [cnt]; split <;> omega
theorem cnt_mono (f : Nat → Int) (k : Nat) {i j : Nat} (h : i ≤ j) : cnt f k i ≤ cnt f k j := by
  induction j with
  | zero => obtain rfl : i = 0 := by omega
            exact Nat.le_refl _
  | succ j ih =>
    by_cases hj : i = j + 1
    · rw [hj]; exact Nat.le_refl _
    · have := ih (by omega)
      simp only [cnt]
      omega
theorem cnt_lt {j : Nat} (h : i < j) (hk : f i = k) : cnt f k i < cnt f k j := by
  have h1 := cnt_mono f k (show i + 1 ≤ j from h)
  rw [cnt_hit hk] at h1
  omega
theorem cnt_find (f : Nat → Int) (k : Nat) : ∀ (m c : Nat), c < cnt f k m → ∃ i, i < m ∧ f i = k ∧ cnt f k i = c := by
  intro m
  induction m with
  | zero => intro c h; simp [cnt] at h
  | succ m ih =>
    intro c h
    by_cases hk : f m = k
    · rw [cnt_hit hk] at h
      by_cases hc : c = cnt f k m
      · exact ⟨m, by omega, hk, hc.symm⟩
      · obtain ⟨i, h1, h2, h3⟩ := ih c (by omega)
        exact ⟨i, by omega, h2, h3⟩
    · rw [cnt_miss hk] at h
      obtain ⟨i, h1, h2, h3⟩ := ih c h
      exact ⟨i, by omega, h2, h3⟩
theorem cnt_congr (h : ∀ j, j < i → f j = g j) : cnt f k i = cnt g k i := by
  induction i with
  | zero => rfl
  | succ i ih =>
    simp only [cnt]
    rw [ih (fun j hj => h j (by omega)), h i (by omega)]

theorem S_mono (f : Nat → Int) (m : Nat) {k j : Nat} (h : k ≤ j) : S f m k ≤ S f m j := by
  induction j with
  | zero => obtain rfl : k = 0 := by omega
            exact Nat.le_refl _
  | succ j ih =>
    by_cases hj : k = j + 1
    · rw [hj]; exact Nat.le_refl _
    · have := ih (by omega)
      simp only [S]
      omega
theorem S_more (f : Nat → Int) (m k : Nat) : S f (m + 1) k = S f m k + if 0 ≤ f m ∧ f m < k then 1 else 0 := by
  induction k with
  | zero => simp only [S]; rw [if_neg (by omega)]
  | succ k ih =>
    simp only [S]
    rw [ih]
    by_cases hk : f m = k
    · rw [cnt_hit hk, if_neg (by omega), if_pos (by omega)]; omega
    · rw [cnt_miss hk]
      by_cases h : 0 ≤ f m ∧ f m < k
      · rw [if_pos h, if_pos (by omega)]; omega
      · rw [if_neg h, if_neg (by omega)]; omega
theorem S_keyed (hf : ∀ j, j < m → f j < n) : S f m n = keyed f m := by
  induction m with
  | zero =>
    have : ∀ k, S f 0 k = 0 := by
      intro k
      induction k with
      | zero => rfl
      | succ k ih => simp only [S, ih, cnt]
    rw [this]; rfl
  | succ m ih =>
    rw [S_more, ih (fun j hj => hf j (by omega))]
    have := hf m (by omega)
    simp only [keyed]
    by_cases h : 0 ≤ f m
    · rw [if_pos ⟨h, this⟩, if_pos h]
    · rw [if_neg (by omega), if_neg h]
theorem keyed_le (f : Nat → Int) (m : Nat) : keyed f m ≤ m := by
  induction m with
  | zero => simp [keyed]
  | succ m ih => simp only [keyed]; split <;> omega
theorem S_le (f : Nat → Int) (m k : Nat) : S f m k ≤ m := by
  induction m with
  | zero =>
    induction k with
    | zero => simp [S]
    | succ k ih => simp only [S, cnt]; omega
  | succ m ih => rw [S_more]; split <;> omega
theorem S_congr (h : ∀ j, j < m → f j = g j) : S f m k = S g m k := by
  induction k with
  | zero => rfl
  | succ k ih => simp only [S]; rw [ih, cnt_congr h]

/-- Where number i lies. -/
def pos (f : Nat → Int) (m k i : Nat) : Nat := S f m k + cnt f k i
theorem pos_lt (hi : i < m) (hk : f i = k) : pos f m k i < S f m (k + 1) := by
  have := cnt_lt hi hk
  unfold pos
  simp only [S]
  omega
theorem pos_in (hi : i < m) (hk : f i = k) (hn : k < n) : pos f m k i < S f m n :=
  Nat.lt_of_lt_of_le (pos_lt hi hk) (S_mono f m hn)
theorem pos_ne {i' k' : Nat} (hi : i < m) (hlt : i' < i) (hk : f i = k) (hk' : f i' = k') : pos f m k' i' ≠ pos f m k i := by
  intro he
  rcases Nat.lt_trichotomy k' k with h | h | h
  · have h1 := pos_lt (m := m) (show i' < m by omega) hk'
    have h2 := S_mono f m (show k' + 1 ≤ k from h)
    unfold pos at *
    omega
  · subst h
    have := cnt_lt hlt hk'
    unfold pos at he
    omega
  · have h1 := pos_lt (m := m) hi hk
    have h2 := S_mono f m (show k + 1 ≤ k' from h)
    unfold pos at *
    omega
theorem S_find (f : Nat → Int) (m : Nat) : ∀ (n j : Nat), j < S f m n → ∃ k, k < n ∧ S f m k ≤ j ∧ j < S f m (k + 1) := by
  intro n
  induction n with
  | zero => intro j h; simp [S] at h
  | succ n ih =>
    intro j h
    by_cases hj : j < S f m n
    · obtain ⟨k, h1, h2, h3⟩ := ih j hj
      exact ⟨k, by omega, h2, h3⟩
    · exact ⟨n, by omega, by omega, h⟩
/-- Inside a group each place is that of one number. -/
theorem pos_at {j : Nat} (h1 : S f m k ≤ j) (h2 : j < S f m (k + 1)) : ∃ i, i < m ∧ f i = k ∧ pos f m k i = j := by
  simp only [S] at h2
  obtain ⟨i, hi, hk, hc⟩ := cnt_find f k m (j - S f m k) (by omega)
  exact ⟨i, hi, hk, by unfold pos; omega⟩
theorem pos_find {j : Nat} (h : j < S f m n) : ∃ k i, k < n ∧ i < m ∧ f i = k ∧ pos f m k i = j := by
  obtain ⟨k, hk, h1, h2⟩ := S_find f m n j h
  obtain ⟨i, hi, hf, hp⟩ := pos_at h1 h2
  exact ⟨k, i, hk, hi, hf, hp⟩

/-! ### One key more -/
/-- The keys f, and behind the first m the key z. -/
def app (f : Nat → Int) (m : Nat) (z : Int) : Nat → Int := fun j => if j < m then f j else z
theorem app_lt {z : Int} {j : Nat} (h : j < m) : app f m z j = f j := by simp [app, h]
theorem app_at {z : Int} : app f m z m = z := by simp [app]
theorem app_cnt {z : Int} {j : Nat} (h : j ≤ m) : cnt (app f m z) k j = cnt f k j := cnt_congr (fun i hi => app_lt (by omega))
theorem app_S {z : Int} : S (app f m z) (m + 1) k = S f m k + if 0 ≤ z ∧ z < k then 1 else 0 := by
  rw [S_more, app_at, S_congr (fun j hj => app_lt hj)]
end Go.Proofs.Qxb6601261a.Pl
