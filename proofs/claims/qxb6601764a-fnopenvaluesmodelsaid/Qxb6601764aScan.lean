/-
  THE PLAIN LAW OF openValues: a byte-at-a-time reader ('step'), and what stringEnd's and multiLineEnd's answers mean to it. No Go in sight.
-/
import Derived.Test.Qxb6601764aPlain
namespace Go.Proofs.Qxb6601764a.Pl

/-- The reader: its state, the run of closing quotes just read, the quote of the multi-line string that is open (0: none), the depth of brackets. -/
structure Sc where
  st : Nat
  run : Nat
  ml : Nat
  d : Int

def norm (x : Sc) (b : Nat) : Sc :=
  if x.st = 0 then (if b = 35 then ⟨1, x.run, x.ml, x.d⟩ else if b = 34 then ⟨2, x.run, x.ml, x.d⟩ else if b = 39 then ⟨6, x.run, x.ml, x.d⟩
    else if b = 91 ∨ b = 123 then ⟨x.st, x.run, x.ml, x.d + 1⟩ else if b = 93 ∨ b = 125 then ⟨x.st, x.run, x.ml, x.d - 1⟩ else x)
  else if x.st = 2 then (if b = 34 then ⟨5, x.run, x.ml, x.d⟩ else if b = 92 then ⟨4, x.run, x.ml, x.d⟩ else ⟨3, x.run, x.ml, x.d⟩)
  else if x.st = 3 then (if b = 34 then ⟨0, x.run, x.ml, x.d⟩ else if b = 92 then ⟨4, x.run, x.ml, x.d⟩ else x)
  else if x.st = 4 then ⟨3, x.run, x.ml, x.d⟩
  else if x.st = 6 then (if b = 39 then ⟨8, x.run, x.ml, x.d⟩ else ⟨7, x.run, x.ml, x.d⟩)
  else if x.st = 7 then (if b = 39 then ⟨0, x.run, x.ml, x.d⟩ else x)
  else x

def step (x : Sc) (b : Nat) : Sc :=
  if x.st = 5 then (if b = 34 then ⟨9, 0, 34, x.d⟩ else norm ⟨0, x.run, x.ml, x.d⟩ b)
  else if x.st = 8 then (if b = 39 then ⟨9, 0, 39, x.d⟩ else norm ⟨0, x.run, x.ml, x.d⟩ b)
  else if x.st = 9 then (if b = x.ml then ⟨9, x.run + 1, x.ml, x.d⟩ else if x.run < 3 then (if x.ml = 34 ∧ b = 92 then ⟨10, 0, x.ml, x.d⟩ else ⟨9, 0, x.ml, x.d⟩) else norm ⟨0, 0, 0, x.d⟩ b)
  else if x.st = 10 then ⟨9, x.run, x.ml, x.d⟩
  else norm x b

def go (x : Sc) (l : List Nat) : Sc := l.foldl step x
theorem go_nil (x : Sc) : go x [] = x := rfl
theorem go_cons (x : Sc) (b : Nat) (l : List Nat) : go x (b :: l) = go (step x b) l := rfl

/-- What a line leaves: the depth, and the quote of the multi-line string that is still open. -/
def fin (x : Sc) : Int × Nat := (x.d, if x.st = 9 ∧ 3 ≤ x.run then 0 else x.ml)
def ini (d : Int) (q : Nat) : Sc := ⟨if q = 0 then 0 else 9, 0, q, d⟩

theorem go_one (d : Int) (l : List Nat) : fin (go ⟨1, 0, 0, d⟩ l) = (d, 0) := by
  induction l with
  | nil => simp [go_nil, fin]
  | cons b l ih => rw [go_cons, show step ⟨1, 0, 0, d⟩ b = ⟨1, 0, 0, d⟩ by simp [step, norm]]; exact ih

theorem go_basic (d : Int) : ∀ l : List Nat, fin (go ⟨3, 0, 0, d⟩ l) = fin (go ⟨0, 0, 0, d⟩ (l.drop (se 34 l)))
  | [] => by simp [go_nil, fin, se]
  | [c] => by
    simp only [se, ite_self, List.drop_succ_cons, List.drop_nil, go_cons, go_nil]
    by_cases h1 : c = 34
    · simp [step, norm, h1, fin]
    · by_cases h2 : c = 92
      · simp [step, norm, h2, fin]
      · simp [step, norm, h1, h2, fin]
  | c :: e :: l => by
    by_cases h2 : c = 92
    · have hs : se 34 (c :: e :: l) = se 34 l + 2 := by simp [se, h2]; omega
      rw [hs, List.drop_succ_cons, List.drop_succ_cons, go_cons, go_cons, h2]
      have e1 : step (step ⟨3, 0, 0, d⟩ 92) e = ⟨3, 0, 0, d⟩ := by simp [step, norm]
      rw [e1]
      exact go_basic d l
    · by_cases h1 : c = 34
      · have hs : se 34 (c :: e :: l) = 1 := by simp [se, h1]
        rw [hs, List.drop_succ_cons, List.drop_zero, go_cons]
        congr 2
        simp [step, norm, h1]
      · have hs : se 34 (c :: e :: l) = se 34 (e :: l) + 1 := by simp only [se]; simp [h1, h2]; omega
        rw [hs, List.drop_succ_cons, go_cons]
        have e1 : step ⟨3, 0, 0, d⟩ c = ⟨3, 0, 0, d⟩ := by simp [step, norm, h1, h2]
        rw [e1]
        exact go_basic d (e :: l)

theorem go_lit (d : Int) : ∀ l : List Nat, fin (go ⟨7, 0, 0, d⟩ l) = fin (go ⟨0, 0, 0, d⟩ (l.drop (se 39 l)))
  | [] => by simp [go_nil, fin, se]
  | [c] => by
    simp only [se, ite_self, List.drop_succ_cons, List.drop_nil, go_cons, go_nil]
    by_cases h1 : c = 39
    · simp [step, norm, h1, fin]
    · simp [step, norm, h1, fin]
  | c :: e :: l => by
    by_cases h1 : c = 39
    · have hs : se 39 (c :: e :: l) = 1 := by simp [se, h1]
      rw [hs, List.drop_succ_cons, List.drop_zero, go_cons]
      congr 2
      simp [step, norm, h1]
    · have hs : se 39 (c :: e :: l) = se 39 (e :: l) + 1 := by simp only [se]; simp [h1]; omega
      rw [hs, List.drop_succ_cons, go_cons]
      have e1 : step ⟨7, 0, 0, d⟩ c = ⟨7, 0, 0, d⟩ := by simp [step, norm, h1]
      rw [e1]
      exact go_lit d (e :: l)

theorem go_ml (q : Nat) (d : Int) (l : List Nat) : ∀ (esc : Bool) (run : Nat), fin (go (if esc then ⟨10, 0, q, d⟩ else ⟨9, run, q, d⟩) l)
    = if (ml q esc run l).2 then fin (go ⟨0, 0, 0, d⟩ (l.drop (ml q esc run l).1)) else (d, q) := by
  induction l with
  | nil =>
    intro esc run
    cases esc
    · by_cases h : 3 ≤ run <;> simp [go_nil, fin, ml, h]
    · simp [go_nil, fin, ml]
  | cons c l ih =>
    intro esc run
    cases esc
    · rw [if_neg (by simp), go_cons]
      by_cases hc : c = q
      · have e1 : step ⟨9, run, q, d⟩ c = ⟨9, run + 1, q, d⟩ := by simp [step, hc]
        have := ih false (run + 1)
        rw [if_neg (by simp)] at this
        rw [e1, this]
        simp only [ml, if_pos hc, Nat.add_comm 1, List.drop_succ_cons]
      · by_cases hr : 3 ≤ run
        · have e1 : step ⟨9, run, q, d⟩ c = norm ⟨0, 0, 0, d⟩ c := by simp [step, hc]; omega
          have e2 : step ⟨0, 0, 0, d⟩ c = norm ⟨0, 0, 0, d⟩ c := by simp [step]
          simp only [ml, if_neg hc, if_pos hr, if_true, List.drop_zero]
          rw [e1, go_cons, e2]
        · by_cases he : q = 34 ∧ c = 92
          · have e1 : step ⟨9, run, q, d⟩ c = ⟨10, 0, q, d⟩ := by simp [step, he]; omega
            have := ih true 0
            rw [if_pos rfl] at this
            rw [e1, this]
            simp only [ml, if_neg hc, if_neg hr, if_pos he, Nat.add_comm 1, List.drop_succ_cons]
          · have e1 : step ⟨9, run, q, d⟩ c = ⟨9, 0, q, d⟩ := by
              simp only [step]
              rw [if_neg (by omega), if_neg (by omega), if_pos trivial, if_neg hc, if_pos (by omega), if_neg he]
            have := ih false 0
            rw [if_neg (by simp)] at this
            rw [e1, this]
            simp only [ml, if_neg hc, if_neg hr, if_neg he, Nat.add_comm 1, List.drop_succ_cons]
    · rw [if_pos rfl, go_cons]
      have e1 : step ⟨10, 0, q, d⟩ c = ⟨9, 0, q, d⟩ := by simp [step]
      have := ih false 0
      rw [if_neg (by simp)] at this
      rw [e1, this]
      simp only [ml, Nat.add_comm 1, List.drop_succ_cons]

theorem ml_false (q : Nat) (l : List Nat) : ∀ (esc : Bool) (run : Nat), (ml q esc run l).2 = false → (ml q esc run l).1 = l.length := by
  induction l with
  | nil => intro esc run _; simp [ml]
  | cons c l ih =>
    intro esc run h
    cases esc
    · simp only [ml] at h ⊢
      split at h <;> rename_i h1
      · rw [if_pos h1]; have := ih _ _ h; simp only [List.length_cons]; omega
      · rw [if_neg h1]
        split at h <;> rename_i h2
        · cases h
        · rw [if_neg h2]
          split at h <;> rename_i h3
          · rw [if_pos h3]; have := ih _ _ h; simp only [List.length_cons]; omega
          · rw [if_neg h3]; have := ih _ _ h; simp only [List.length_cons]; omega
    · simp only [ml] at h ⊢
      have := ih _ _ h; simp only [List.length_cons]; omega

theorem ml_le (q : Nat) (l : List Nat) : ∀ (esc : Bool) (run : Nat), (ml q esc run l).1 ≤ l.length := by
  induction l with
  | nil => intro esc run; simp [ml]
  | cons c l ih =>
    intro esc run
    have i1 := ih false (run + 1)
    have i2 := ih true 0
    have i3 := ih false 0
    cases esc
    · simp only [ml, List.length_cons]
      split
      · simp only; omega
      · split
        · simp only; omega
        · split <;> simp only <;> omega
    · simp only [ml, List.length_cons]; omega

/-- What the line's rest from k leaves, begun at depth d with the multi-line quote q (0: none). -/
def T (s : ByteArray) (d : Int) (q k : Nat) : Int × Nat := fin (go (ini d q) ((bts s).drop k))

theorem T_end {s : ByteArray} {d : Int} {q k : Nat} (h : s.size ≤ k) : T s d q k = (d, q) := by
  unfold T
  rw [bts_drop_end h, go_nil]
  by_cases hq : q = 0 <;> simp [fin, ini, hq]
theorem G_false {s : ByteArray} {q run k m : Nat} (h : G s q run k = (m, false)) : m = s.size := by
  unfold G at h
  split at h
  · simp only [Prod.mk.injEq] at h
    have := ml_false q _ _ _ h.2
    rw [List.length_drop, bts_length] at this
    omega
  · simp only [Prod.mk.injEq] at h
    exact h.1.symm
theorem G_le (s : ByteArray) (q run k : Nat) : (G s q run k).1 ≤ s.size := by
  unfold G
  split
  · have := ml_le q ((bts s).drop k) false run
    rw [List.length_drop, bts_length] at this
    simp only
    omega
  · simp
theorem G_gt {s : ByteArray} {q k : Nat} (h : k < s.size) : k < (G s q 0 k).1 := by
  unfold G
  rw [if_pos h, bts_drop h]
  simp only [ml]
  split
  · simp only; omega
  · rw [if_neg (by omega)]
    split <;> simp only <;> omega
theorem E_ge {s : ByteArray} {q k : Nat} (h : k ≤ s.size) : k ≤ E s q k := by
  unfold E; split <;> omega
theorem T_ml {s : ByteArray} {d : Int} {q k m : Nat} {b : Bool} (hq : q ≠ 0) (hk : k < s.size) (h : G s q 0 k = (m, b)) : T s d q k = T s d (if b then 0 else q) m := by
  have hm := G_le s q 0 k
  have hz : ini d q = ⟨9, 0, q, d⟩ := by simp [ini, hq]
  have e : T s d q k = if (ml q false 0 ((bts s).drop k)).2 then fin (go ⟨0, 0, 0, d⟩ (((bts s).drop k).drop (ml q false 0 ((bts s).drop k)).1)) else (d, q) := by
    unfold T; rw [hz]; exact go_ml q d _ false 0
  cases b
  · have e2 : (ml q false 0 ((bts s).drop k)).2 = false := by
      unfold G at h; rw [if_pos hk] at h; simp only [Prod.mk.injEq] at h; exact h.2
    rw [e, e2, if_neg (by simp), if_neg (by simp), G_false h, T_end (Nat.le_refl _)]
  · unfold G at h
    rw [if_pos hk] at h
    simp only [Prod.mk.injEq] at h
    rw [e, h.2, if_pos rfl, if_pos rfl, List.drop_drop, h.1]
    simp [T, ini]
theorem T_hash {s : ByteArray} {d : Int} {k : Nat} (hk : k < s.size) (hb : bt s k = 35) : T s d 0 k = T s d 0 s.size := by
  rw [T_end (Nat.le_refl _)]
  unfold T
  rw [bts_drop hk, go_cons, hb, show step (ini d 0) 35 = ⟨1, 0, 0, d⟩ by simp [ini, step, norm]]
  exact go_one d _
theorem T_three {s : ByteArray} {d : Int} {q k : Nat} (hq : q = 34 ∨ q = 39) (hk : k + 2 < s.size) (h0 : bt s k = q) (h1 : bt s (k + 1) = q) (h2 : bt s (k + 2) = q) : T s d 0 k = T s d q (k + 3) := by
  unfold T
  rw [bts_drop (by omega : k < s.size), bts_drop (by omega : k + 1 < s.size), bts_drop (by omega : k + 1 + 1 < s.size), go_cons, go_cons, go_cons, h0, h1, h2]
  rcases hq with rfl | rfl <;> simp [ini, step, norm]
theorem T_str {s : ByteArray} {d : Int} {q k : Nat} (hq : q = 34 ∨ q = 39) (hk : k < s.size) (h0 : bt s k = q) (hn : ¬ (k + 2 < s.size ∧ bt s (k + 1) = q ∧ bt s (k + 2) = q)) : T s d 0 k = T s d 0 (E s q (k + 1)) := by
  by_cases h1 : k + 1 < s.size
  · by_cases h2 : bt s (k + 1) = q
    · have hE : E s q (k + 1) = k + 2 := E_hit h1 (by omega) h2
      rw [hE]
      unfold T
      rw [bts_drop hk, bts_drop h1, go_cons, go_cons, h0, h2]
      by_cases h3 : k + 2 < s.size
      · have h4 : ¬ bt s (k + 2) = q := fun h => hn ⟨h3, h2, h⟩
        rw [bts_drop (by omega : k + 1 + 1 < s.size), go_cons, go_cons]
        rcases hq with rfl | rfl
        · congr 2
          simp [ini, step, norm, h4]
        · congr 2
          simp [ini, step, norm, h4]
      · rw [bts_drop_end (by omega : s.size ≤ k + 1 + 1), go_nil, go_nil]
        rcases hq with rfl | rfl <;> simp [ini, step, norm, fin]
    · have hE : (bts s).drop (E s q (k + 1)) = ((bts s).drop (k + 1)).drop (se q ((bts s).drop (k + 1))) := by
        unfold E; rw [if_pos h1, List.drop_drop]
      have hz : ini d 0 = ⟨0, 0, 0, d⟩ := by simp [ini]
      unfold T
      rw [hE, hz]
      rcases hq with rfl | rfl
      · rw [← go_basic]
        rw [bts_drop hk, bts_drop h1, go_cons, go_cons, go_cons, h0]
        by_cases h5 : bt s (k + 1) = 92
        · simp [step, norm, h5]
        · simp [step, norm, h2, h5]
      · rw [← go_lit]
        rw [bts_drop hk, bts_drop h1, go_cons, go_cons, go_cons, h0]
        simp [step, norm, h2]
  · rw [E_end (by omega), T_end (Nat.le_refl _)]
    unfold T
    rw [bts_drop hk, bts_drop_end (by omega : s.size ≤ k + 1), go_cons, go_nil, h0]
    rcases hq with rfl | rfl <;> simp [ini, step, norm, fin]
theorem T_up {s : ByteArray} {d : Int} {k : Nat} (hk : k < s.size) (hb : bt s k = 91 ∨ bt s k = 123) : T s d 0 k = T s (d + 1) 0 (k + 1) := by
  unfold T
  rw [bts_drop hk, go_cons]
  rcases hb with h | h <;> simp [ini, step, norm, h]
theorem T_down {s : ByteArray} {d : Int} {k : Nat} (hk : k < s.size) (hb : bt s k = 93 ∨ bt s k = 125) : T s d 0 k = T s (d - 1) 0 (k + 1) := by
  unfold T
  rw [bts_drop hk, go_cons]
  rcases hb with h | h <;> simp [ini, step, norm, h]
theorem T_skip {s : ByteArray} {d : Int} {k : Nat} (hk : k < s.size) (h1 : bt s k ≠ 35) (h2 : bt s k ≠ 34) (h3 : bt s k ≠ 39) (h4 : bt s k ≠ 91) (h5 : bt s k ≠ 123) (h6 : bt s k ≠ 93) (h7 : bt s k ≠ 125) : T s d 0 k = T s d 0 (k + 1) := by
  unfold T
  rw [bts_drop hk, go_cons]
  simp [ini, step, norm, h1, h2, h3, h4, h5, h6, h7]

/-! ### The text -/
/-- What a line makes of depth and quote. -/
def after (x : Int × Nat) (s : ByteArray) : Int × Nat := T s x.1 x.2 0
/-- Depth and quote behind the first k lines. -/
def stt (ss : List ByteArray) (k : Nat) : Int × Nat := (ss.take k).foldl after (0, 0)
def isOpen (x : Int × Nat) : Bool := decide (0 < x.1) || decide (x.2 ≠ 0)
def outs (ss : List ByteArray) : List Bool := (List.range ss.length).map fun j => isOpen (stt ss (j + 1))
/-- The bytes of the first k lines. -/
def tot (ss : List ByteArray) (k : Nat) : Nat := ((ss.take k).map ByteArray.size).sum

theorem stt_zero (ss : List ByteArray) : stt ss 0 = (0, 0) := by simp [stt]
theorem stt_succ {ss : List ByteArray} {k : Nat} (h : k < ss.length) : stt ss (k + 1) = after (stt ss k) (ss[k]'h) := by
  unfold stt
  rw [List.take_succ_eq_append_getElem h, List.foldl_append]
  rfl
theorem tot_zero (ss : List ByteArray) : tot ss 0 = 0 := by simp [tot]
theorem tot_succ {ss : List ByteArray} {k : Nat} (h : k < ss.length) : tot ss (k + 1) = tot ss k + (ss[k]'h).size := by
  unfold tot
  rw [List.take_succ_eq_append_getElem h, List.map_append, List.sum_append]
  simp only [List.map_cons, List.map_nil, List.sum_cons, List.sum_nil, Nat.add_zero]
theorem tot_le (ss : List ByteArray) (k m : Nat) (h : k ≤ m) : tot ss k ≤ tot ss m := by
  induction m with
  | zero => obtain rfl : k = 0 := by omega
            exact Nat.le_refl _
  | succ m ih =>
    by_cases hk : k = m + 1
    · subst hk; exact Nat.le_refl _
    · have := ih (by omega)
      by_cases hm : m < ss.length
      · rw [tot_succ hm]; omega
      · have e : tot ss (m + 1) = tot ss m := by unfold tot; rw [List.take_of_length_le (by omega), List.take_of_length_le (by omega)]
        omega
theorem outs_length (ss : List ByteArray) : (outs ss).length = ss.length := by simp [outs]
theorem outs_get {ss : List ByteArray} {j : Nat} (h : j < ss.length) : (outs ss)[j]? = some (isOpen (stt ss (j + 1))) := by
  simp [outs, h]

/-- The quote is none, or one of the two, all along. -/
theorem fin_ml {x : Sc} (h : x.ml = 0 ∨ x.ml = 34 ∨ x.ml = 39) : (fin x).2 = 0 ∨ (fin x).2 = 34 ∨ (fin x).2 = 39 := by
  unfold fin; simp only; split <;> simp_all
theorem norm_ml {x : Sc} {b : Nat} : (norm x b).ml = x.ml := by
  unfold norm
  repeat' split
  all_goals rfl
theorem step_ml {x : Sc} {b : Nat} (h : x.ml = 0 ∨ x.ml = 34 ∨ x.ml = 39) : (step x b).ml = 0 ∨ (step x b).ml = 34 ∨ (step x b).ml = 39 := by
  unfold step
  repeat' split
  all_goals first | exact h | (rw [norm_ml]; first | exact h | simp) | simp
theorem go_mlq {l : List Nat} : ∀ {x : Sc}, (x.ml = 0 ∨ x.ml = 34 ∨ x.ml = 39) → ((go x l).ml = 0 ∨ (go x l).ml = 34 ∨ (go x l).ml = 39) := by
  induction l with
  | nil => intro x h; exact h
  | cons b l ih => intro x h; rw [go_cons]; exact ih (step_ml h)
theorem stt_ml (ss : List ByteArray) (k : Nat) (hk : k ≤ ss.length) : (stt ss k).2 = 0 ∨ (stt ss k).2 = 34 ∨ (stt ss k).2 = 39 := by
  induction k with
  | zero => simp [stt_zero]
  | succ k ih =>
    rw [stt_succ (by omega)]
    unfold after T
    exact fin_ml (go_mlq (by simpa [ini] using ih (by omega)))
end Go.Proofs.Qxb6601764a.Pl
