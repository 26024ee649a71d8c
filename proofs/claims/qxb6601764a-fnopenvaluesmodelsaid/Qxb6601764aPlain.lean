/-
  THE PLAIN LAWS OF stringEnd AND multiLineEnd: no Go in sight.
-/
namespace Go.Proofs.Qxb6601764a.Pl

/-- The byte at place k as a number (0 past the end). -/
def bt (s : ByteArray) (k : Nat) : Nat := if h : k < s.size then (s[k]'h).toNat else 0
theorem bt_lt {s : ByteArray} {k : Nat} (h : k < s.size) : bt s k = (s[k]'h).toNat := by simp [bt, h]
def bts (s : ByteArray) : List Nat := (List.range s.size).map (bt s)
theorem bts_length (s : ByteArray) : (bts s).length = s.size := by simp [bts]
theorem bts_drop {s : ByteArray} {k : Nat} (h : k < s.size) : (bts s).drop k = bt s k :: (bts s).drop (k + 1) := by
  have h' : k < (bts s).length := by rw [bts_length]; exact h
  rw [List.drop_eq_getElem_cons h']
  congr 1
  simp [bts]
theorem bts_drop_end {s : ByteArray} {k : Nat} (h : s.size ≤ k) : (bts s).drop k = [] := by
  rw [List.drop_eq_nil_iff, bts_length]; exact h

/-! ### stringEnd -/
/-- How many bytes of l the one-line string still takes, behind its opening quote q. -/
def se (q : Nat) : List Nat → Nat
  | [] => 0
  | [c] => if q = 34 ∧ c = 92 then 1 else 1
  | c :: d :: l => if q = 34 ∧ c = 92 then 2 + se q l else if c = q then 1 else 1 + se q (d :: l)

/-- Where the string ends that is read on from k. -/
def E (s : ByteArray) (q k : Nat) : Nat := if k < s.size then k + se q ((bts s).drop k) else s.size

theorem E_end {s : ByteArray} {q k : Nat} (h : s.size ≤ k) : E s q k = s.size := by
  unfold E; rw [if_neg (by omega)]
theorem E_esc {s : ByteArray} {q k : Nat} (h : k < s.size) (hq : q = 34) (hb : bt s k = 92) : E s q k = E s q (k + 2) := by
  unfold E
  rw [if_pos h, bts_drop h]
  by_cases h1 : k + 1 < s.size
  · rw [bts_drop h1]
    simp only [se, hq, hb, and_self, if_true]
    by_cases h2 : k + 2 < s.size
    · rw [if_pos h2, (rfl : k + 1 + 1 = k + 2)]; omega
    · rw [if_neg h2, bts_drop_end (by omega : s.size ≤ k + 1 + 1)]; simp only [se]; omega
  · rw [bts_drop_end (by omega : s.size ≤ k + 1), if_neg (by omega)]
    simp only [se, hq, hb, and_self, if_true]; omega
theorem E_hit {s : ByteArray} {q k : Nat} (h : k < s.size) (hn : ¬ (q = 34 ∧ bt s k = 92)) (hb : bt s k = q) : E s q k = k + 1 := by
  unfold E
  rw [if_pos h, bts_drop h]
  by_cases h1 : k + 1 < s.size
  · rw [bts_drop h1]
    simp only [se, if_neg hn, if_pos hb]
  · rw [bts_drop_end (by omega : s.size ≤ k + 1)]
    simp only [se, if_neg hn]
theorem E_next {s : ByteArray} {q k : Nat} (h : k < s.size) (hn : ¬ (q = 34 ∧ bt s k = 92)) (hb : ¬ bt s k = q) : E s q k = E s q (k + 1) := by
  unfold E
  rw [if_pos h, bts_drop h]
  by_cases h1 : k + 1 < s.size
  · rw [if_pos h1, bts_drop h1]
    simp only [se, if_neg hn, if_neg hb]
    omega
  · rw [bts_drop_end (by omega : s.size ≤ k + 1), if_neg h1]
    simp only [se, if_neg hn]
    omega
theorem se_le (q : Nat) : ∀ l : List Nat, se q l ≤ l.length
  | [] => by simp [se]
  | [c] => by simp [se]
  | c :: d :: l => by
    have h1 := se_le q l
    have h2 := se_le q (d :: l)
    simp only [se, List.length_cons] at h2 ⊢
    split
    · omega
    · split <;> omega
theorem E_le (s : ByteArray) (q k : Nat) : E s q k ≤ s.size := by
  unfold E
  split
  · have := se_le q ((bts s).drop k)
    rw [List.length_drop, bts_length] at this
    omega
  · omega

/-- The run of backslashes that ends just before k, counted down to lo. -/
def bs (s : ByteArray) (lo : Nat) : Nat → Nat
  | 0 => 0
  | k + 1 => if lo ≤ k ∧ bt s k = 92 then bs s lo k + 1 else 0
theorem bs_lo {s : ByteArray} {lo k : Nat} (h : k ≤ lo) : bs s lo k = 0 := by
  cases k with
  | zero => rfl
  | succ k => simp only [bs]; rw [if_neg (by omega)]
theorem bs_hit {s : ByteArray} {lo k : Nat} (h : lo ≤ k) (hb : bt s k = 92) : bs s lo (k + 1) = bs s lo k + 1 := by
  simp only [bs]; rw [if_pos ⟨h, hb⟩]
theorem bs_no {s : ByteArray} {lo k : Nat} (hb : ¬ bt s k = 92) : bs s lo (k + 1) = 0 := by
  simp only [bs]; rw [if_neg (fun h => hb h.2)]
theorem bs_le (s : ByteArray) (lo k : Nat) : bs s lo k ≤ k := by
  induction k with
  | zero => simp [bs]
  | succ k ih => simp only [bs]; split <;> omega

/-- What the model's reader at k is bound to answer: at an escaped place the string goes on behind it. -/
def F (s : ByteArray) (q lo k : Nat) : Nat := if q = 34 ∧ bs s lo k % 2 = 1 then E s q (k + 1) else E s q k
theorem F_start (s : ByteArray) (q lo : Nat) : F s q lo lo = E s q lo := by
  unfold F; rw [if_neg]; rw [bs_lo (Nat.le_refl _)]; omega
theorem F_end {s : ByteArray} {q lo k : Nat} (h : s.size ≤ k) : F s q lo k = s.size := by
  unfold F; split
  · exact E_end (by omega)
  · exact E_end h
theorem F_miss {s : ByteArray} {q lo k : Nat} (h : k < s.size) (hl : lo ≤ k) (hb : ¬ bt s k = q) : F s q lo (k + 1) = F s q lo k := by
  unfold F
  by_cases hq : q = 34
  · by_cases hc : bt s k = 92
    · rw [bs_hit hl hc]
      by_cases ho : bs s lo k % 2 = 1
      · rw [if_neg (by omega), if_pos ⟨hq, ho⟩]
      · rw [if_pos ⟨hq, by omega⟩, if_neg (by omega)]
        exact (E_esc h hq hc).symm
    · rw [bs_no hc, if_neg (by omega)]
      by_cases ho : bs s lo k % 2 = 1
      · rw [if_pos ⟨hq, ho⟩]
      · rw [if_neg (by omega)]
        exact (E_next h (by omega) hb).symm
  · rw [if_neg (by omega), if_neg (by omega)]
    exact (E_next h (by omega) hb).symm
theorem F_odd {s : ByteArray} {q lo k : Nat} (hq : q = 34) (hb : bt s k = q) (ho : bs s lo k % 2 = 1) : F s q lo (k + 1) = F s q lo k := by
  unfold F
  rw [bs_no (by omega), if_neg (by omega), if_pos ⟨hq, ho⟩]
theorem F_even {s : ByteArray} {q lo k : Nat} (h : k < s.size) (hq : q = 34) (hb : bt s k = q) (ho : ¬ bs s lo k % 2 = 1) : F s q lo k = k + 1 := by
  unfold F
  rw [if_neg (by omega)]
  exact E_hit h (by omega) hb
theorem F_hit {s : ByteArray} {q lo k : Nat} (h : k < s.size) (hq : ¬ q = 34) (hb : bt s k = q) : F s q lo k = k + 1 := by
  unfold F
  rw [if_neg (by omega)]
  exact E_hit h (by omega) hb

/-! ### multiLineEnd -/
/-- How many bytes of l the multi-line string with the quote q still takes, behind 'run' quotes; and whether it is closed then. -/
def ml (q : Nat) : Bool → Nat → List Nat → Nat × Bool
  | esc, run, [] => (0, !esc && decide (3 ≤ run))
  | true, _, _ :: l => (1 + (ml q false 0 l).1, (ml q false 0 l).2)
  | false, run, c :: l => if c = q then (1 + (ml q false (run + 1) l).1, (ml q false (run + 1) l).2) else if 3 ≤ run then (0, true)
      else if q = 34 ∧ c = 92 then (1 + (ml q true 0 l).1, (ml q true 0 l).2) else (1 + (ml q false 0 l).1, (ml q false 0 l).2)

def G (s : ByteArray) (q run k : Nat) : Nat × Bool := if k < s.size then (k + (ml q false run ((bts s).drop k)).1, (ml q false run ((bts s).drop k)).2) else (s.size, decide (3 ≤ run))

theorem G_end {s : ByteArray} {q run k : Nat} (h : s.size ≤ k) : G s q run k = (s.size, decide (3 ≤ run)) := by
  unfold G; rw [if_neg (by omega)]
theorem G_q {s : ByteArray} {q run k : Nat} (h : k < s.size) (hb : bt s k = q) : G s q run k = G s q (run + 1) (k + 1) := by
  unfold G
  rw [if_pos h, bts_drop h]
  simp only [ml, if_pos hb]
  by_cases h1 : k + 1 < s.size
  · rw [if_pos h1]; simp only [Prod.mk.injEq, and_true]; omega
  · rw [if_neg h1, bts_drop_end (by omega : s.size ≤ k + 1)]; simp [ml]; omega
theorem G_done {s : ByteArray} {q run k : Nat} (h : k < s.size) (hb : ¬ bt s k = q) (hr : 3 ≤ run) : G s q run k = (k, true) := by
  unfold G
  rw [if_pos h, bts_drop h]
  simp only [ml, if_neg hb, if_pos hr, Nat.add_zero]
theorem G_esc {s : ByteArray} {q run k : Nat} (h : k < s.size) (hr : run < 3) (hq : q = 34) (hb : bt s k = 92) : G s q run k = G s q 0 (k + 2) := by
  unfold G
  rw [if_pos h, bts_drop h]
  have hn : ¬ bt s k = q := by omega
  simp only [ml, if_neg hn, if_neg (by omega : ¬ 3 ≤ run), if_pos (⟨hq, hb⟩ : q = 34 ∧ bt s k = 92)]
  by_cases h1 : k + 1 < s.size
  · rw [bts_drop h1]
    by_cases h2 : k + 2 < s.size
    · rw [if_pos h2]; simp only [ml, Prod.mk.injEq, and_true, (rfl : k + 1 + 1 = k + 2)]; omega
    · rw [if_neg h2, bts_drop_end (by omega : s.size ≤ k + 1 + 1)]; simp [ml]; omega
  · rw [if_neg (by omega), bts_drop_end (by omega : s.size ≤ k + 1)]; simp [ml]; omega
theorem G_next {s : ByteArray} {q run k : Nat} (h : k < s.size) (hb : ¬ bt s k = q) (hr : run < 3) (hn : ¬ (q = 34 ∧ bt s k = 92)) : G s q run k = G s q 0 (k + 1) := by
  unfold G
  rw [if_pos h, bts_drop h]
  simp only [ml, if_neg hb, if_neg (by omega : ¬ 3 ≤ run), if_neg hn]
  by_cases h1 : k + 1 < s.size
  · rw [if_pos h1]; simp only [Prod.mk.injEq, and_true]; omega
  · rw [if_neg h1, bts_drop_end (by omega : s.size ≤ k + 1)]; simp [ml]; omega
/-- A run that is over, of fewer than three: it is forgotten. -/
theorem G_forget {s : ByteArray} {q run k : Nat} (hb : k < s.size → ¬ bt s k = q) (hr : run < 3) : G s q run k = G s q 0 k := by
  by_cases h : k < s.size
  · have hb := hb h
    by_cases hn : q = 34 ∧ bt s k = 92
    · rw [G_esc h hr hn.1 hn.2, G_esc h (by omega) hn.1 hn.2]
    · rw [G_next h hb hr hn, G_next h hb (by omega) hn]
  · rw [G_end (by omega), G_end (by omega)]
    rw [decide_eq_false (by omega), decide_eq_false (by omega)]
/-- A quote at which no three begin. -/
theorem G_short {s : ByteArray} {q k : Nat} (h : k < s.size) (hb : bt s k = q) (hn : ¬ (k + 2 < s.size ∧ bt s (k + 1) = q ∧ bt s (k + 2) = q)) : G s q 0 k = G s q 0 (k + 1) := by
  rw [G_q h hb]
  by_cases h1 : k + 1 < s.size ∧ bt s (k + 1) = q
  · rw [G_q h1.1 h1.2, G_q h1.1 h1.2, G_forget (fun h2 => by intro h3; exact hn ⟨h2, h1.2, h3⟩) (by omega), G_forget (run := 0 + 1) (fun h2 => by intro h3; exact hn ⟨h2, h1.2, h3⟩) (by omega)]
  · exact G_forget (fun h2 h3 => h1 ⟨h2, h3⟩) (by omega)
theorem G_near {s : ByteArray} {q k : Nat} (h : s.size ≤ k + 2) : G s q 0 k = (s.size, false) := by
  have e : ∀ k, s.size ≤ k → G s q 0 k = (s.size, false) := fun k h => by rw [G_end h, decide_eq_false (by omega)]
  have step : ∀ k, k < s.size → s.size ≤ k + 2 → (G s q 0 k = G s q 0 (k + 1) ∨ G s q 0 k = G s q 0 (k + 2)) := by
    intro k hk h2
    by_cases hb : bt s k = q
    · exact .inl (G_short hk hb (by omega))
    · by_cases hn : q = 34 ∧ bt s k = 92
      · exact .inr (G_esc hk (by omega) hn.1 hn.2)
      · exact .inl (G_next hk hb (by omega) hn)
  have e1 : ∀ k, s.size ≤ k + 1 → G s q 0 k = (s.size, false) := by
    intro k h1
    by_cases hk : k < s.size
    · rcases step k hk (by omega) with h2 | h2 <;> rw [h2] <;> exact e _ (by omega)
    · exact e k (by omega)
  by_cases hk : k < s.size
  · rcases step k hk h with h2 | h2 <;> rw [h2] <;> exact e1 _ (by omega)
  · exact e k (by omega)

def FM (s : ByteArray) (q lo k : Nat) : Nat × Bool := if q = 34 ∧ bs s lo k % 2 = 1 then G s q 0 (k + 1) else G s q 0 k
theorem FM_start (s : ByteArray) (q lo : Nat) : FM s q lo lo = G s q 0 lo := by
  unfold FM; rw [if_neg]; rw [bs_lo (Nat.le_refl _)]; omega
theorem FM_end {s : ByteArray} {q lo k : Nat} (h : s.size ≤ k + 2) : FM s q lo k = (s.size, false) := by
  unfold FM; split
  · exact G_near (by omega)
  · exact G_near h
theorem FM_odd {s : ByteArray} {q lo k : Nat} (hl : lo ≤ k) (hq : q = 34) (ho : bs s lo k % 2 = 1) : FM s q lo (k + 1) = FM s q lo k := by
  unfold FM
  rw [if_pos (⟨hq, ho⟩ : q = 34 ∧ bs s lo k % 2 = 1)]
  by_cases hc : bt s k = 92
  · rw [bs_hit hl hc, if_neg (by omega)]
  · rw [bs_no hc, if_neg (by omega)]
theorem FM_miss {s : ByteArray} {q lo k : Nat} (h : k + 2 < s.size) (hl : lo ≤ k) (hb : ¬ (bt s k = q ∧ bt s (k + 1) = q ∧ bt s (k + 2) = q)) : FM s q lo (k + 1) = FM s q lo k := by
  by_cases ho : q = 34 ∧ bs s lo k % 2 = 1
  · exact FM_odd hl ho.1 ho.2
  · unfold FM
    rw [if_neg ho]
    by_cases hc : bt s k = q
    · by_cases hq : q = 34
      · rw [bs_no (by omega), if_neg (by omega)]
        exact (G_short (by omega) hc (fun h2 => hb ⟨hc, h2.2⟩)).symm
      · rw [if_neg (by omega)]
        exact (G_short (by omega) hc (fun h2 => hb ⟨hc, h2.2⟩)).symm
    · by_cases hn : q = 34 ∧ bt s k = 92
      · rw [bs_hit hl hn.2, if_pos ⟨hn.1, by omega⟩]
        exact (G_esc (by omega) (by omega) hn.1 hn.2).symm
      · by_cases hq : q = 34
        · rw [bs_no (by omega), if_neg (by omega)]
          exact (G_next (by omega) hc (by omega) hn).symm
        · rw [if_neg (by omega)]
          exact (G_next (by omega) hc (by omega) hn).symm
/-- Three quotes at an unescaped place: they are read. -/
theorem FM_three {s : ByteArray} {q lo k : Nat} (h : k + 2 < s.size) (he : ¬ (q = 34 ∧ bs s lo k % 2 = 1)) (h0 : bt s k = q) (h1 : bt s (k + 1) = q) (h2 : bt s (k + 2) = q) : FM s q lo k = G s q 3 (k + 3) := by
  unfold FM
  rw [if_neg he, G_q (by omega) h0, G_q (by omega) h1, G_q (by omega) h2]
theorem G_run {s : ByteArray} {q run k : Nat} (hr : 3 ≤ run) (hb : k < s.size → ¬ bt s k = q) (hk : k ≤ s.size) : G s q run k = (k, true) := by
  by_cases h : k < s.size
  · exact G_done h (hb h) hr
  · rw [G_end (by omega), decide_eq_true hr]
    have : k = s.size := by omega
    rw [this]
end Go.Proofs.Qxb6601764a.Pl
