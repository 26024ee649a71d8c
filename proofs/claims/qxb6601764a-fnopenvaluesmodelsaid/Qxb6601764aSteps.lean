/-
  THE READER's STEPS, one by one. No Go in sight.
-/
import Derived.Test.Qxb6601764aScan
namespace Go.Proofs.Qxb6601764a.Pl
section
variable {r q b : Nat} {d : Int}

theorem n35 (h : b = 35) : norm ⟨0, r, q, d⟩ b = ⟨1, r, q, d⟩ := by simp [norm, h]
theorem n34 (h : b = 34) : norm ⟨0, r, q, d⟩ b = ⟨2, r, q, d⟩ := by simp [norm, h]
theorem n39 (h : b = 39) : norm ⟨0, r, q, d⟩ b = ⟨6, r, q, d⟩ := by simp [norm, h]
theorem nup (h : b = 91 ∨ b = 123) : norm ⟨0, r, q, d⟩ b = ⟨0, r, q, d + 1⟩ := by rcases h with h | h <;> simp [norm, h]
theorem ndn (h : b = 93 ∨ b = 125) : norm ⟨0, r, q, d⟩ b = ⟨0, r, q, d - 1⟩ := by rcases h with h | h <;> simp [norm, h]
theorem nsk (h : b ≠ 35 ∧ b ≠ 34 ∧ b ≠ 39 ∧ b ≠ 91 ∧ b ≠ 123 ∧ b ≠ 93 ∧ b ≠ 125) : norm ⟨0, r, q, d⟩ b = ⟨0, r, q, d⟩ := by simp [norm, h]
theorem s0 : step ⟨0, r, q, d⟩ b = norm ⟨0, r, q, d⟩ b := by simp [step]
theorem s1 : step ⟨1, r, q, d⟩ b = ⟨1, r, q, d⟩ := by simp [step, norm]
theorem s2a (h : b = 34) : step ⟨2, r, q, d⟩ b = ⟨5, r, q, d⟩ := by simp [step, norm, h]
theorem s2b (h : b = 92) : step ⟨2, r, q, d⟩ b = ⟨4, r, q, d⟩ := by simp [step, norm, h]
theorem s2c (h : b ≠ 34 ∧ b ≠ 92) : step ⟨2, r, q, d⟩ b = ⟨3, r, q, d⟩ := by simp [step, norm, h]
theorem s3a (h : b = 34) : step ⟨3, r, q, d⟩ b = ⟨0, r, q, d⟩ := by simp [step, norm, h]
theorem s3b (h : b = 92) : step ⟨3, r, q, d⟩ b = ⟨4, r, q, d⟩ := by simp [step, norm, h]
theorem s3c (h : b ≠ 34 ∧ b ≠ 92) : step ⟨3, r, q, d⟩ b = ⟨3, r, q, d⟩ := by simp [step, norm, h]
theorem s4 : step ⟨4, r, q, d⟩ b = ⟨3, r, q, d⟩ := by simp [step, norm]
theorem s5a (h : b = 34) : step ⟨5, r, q, d⟩ b = ⟨9, 0, 34, d⟩ := by simp [step, h]
theorem s5n (h : b ≠ 34) : step ⟨5, r, q, d⟩ b = norm ⟨0, r, q, d⟩ b := by simp [step, h]
theorem s6a (h : b = 39) : step ⟨6, r, q, d⟩ b = ⟨8, r, q, d⟩ := by simp [step, norm, h]
theorem s6b (h : b ≠ 39) : step ⟨6, r, q, d⟩ b = ⟨7, r, q, d⟩ := by simp [step, norm, h]
theorem s7a (h : b = 39) : step ⟨7, r, q, d⟩ b = ⟨0, r, q, d⟩ := by simp [step, norm, h]
theorem s7b (h : b ≠ 39) : step ⟨7, r, q, d⟩ b = ⟨7, r, q, d⟩ := by simp [step, norm, h]
theorem s8a (h : b = 39) : step ⟨8, r, q, d⟩ b = ⟨9, 0, 39, d⟩ := by simp [step, h]
theorem s8n (h : b ≠ 39) : step ⟨8, r, q, d⟩ b = norm ⟨0, r, q, d⟩ b := by simp [step, h]
theorem s9a (h : b = q) : step ⟨9, r, q, d⟩ b = ⟨9, r + 1, q, d⟩ := by simp [step, h]
theorem s9e (h : b ≠ q) (hr : r < 3) (he : q = 34 ∧ b = 92) : step ⟨9, r, q, d⟩ b = ⟨10, 0, q, d⟩ := by
  simp only [step]
  rw [if_neg (by omega), if_neg (by omega), if_pos trivial, if_neg h, if_pos hr, if_pos he]
theorem s9s (h : b ≠ q) (hr : r < 3) (he : ¬ (q = 34 ∧ b = 92)) : step ⟨9, r, q, d⟩ b = ⟨9, 0, q, d⟩ := by
  simp only [step]
  rw [if_neg (by omega), if_neg (by omega), if_pos trivial, if_neg h, if_pos hr, if_neg he]
theorem s9n (h : b ≠ q) (hr : ¬ r < 3) : step ⟨9, r, q, d⟩ b = norm ⟨0, 0, 0, d⟩ b := by
  simp only [step]
  rw [if_neg (by omega), if_neg (by omega), if_pos trivial, if_neg h, if_neg hr]
theorem s10 : step ⟨10, r, q, d⟩ b = ⟨9, r, q, d⟩ := by simp [step]
end
theorem go_next {s : ByteArray} {k : Nat} {x x' X0 : Sc} (hk : k < s.size) (h : go x ((bts s).drop k) = X0) (hs : step x (bt s k) = x') : go x' ((bts s).drop (k + 1)) = X0 := by
  rw [bts_drop hk, go_cons, hs] at h
  exact h
theorem go_last {s : ByteArray} {k : Nat} {x X0 : Sc} (hk : s.size ≤ k) (h : go x ((bts s).drop k) = X0) : x = X0 := by
  rw [bts_drop_end hk, go_nil] at h
  exact h
theorem fin_shut {r q : Nat} {d : Int} (h : 3 ≤ r) : fin ⟨9, r, q, d⟩ = (d, 0) := by simp [fin, h]
theorem fin_short {r q : Nat} {d : Int} (h : ¬ 3 ≤ r) : fin ⟨9, r, q, d⟩ = (d, q) := by simp only [fin]; rw [if_neg (by omega)]
theorem fin_else {st r q : Nat} {d : Int} (h : st ≠ 9) : fin ⟨st, r, q, d⟩ = (d, q) := by simp only [fin]; rw [if_neg (by omega)]
theorem open_pos {d : Int} {q : Nat} (h : 0 < d) : isOpen (d, q) = true := by simp [isOpen, h]
theorem open_no {d : Int} {q : Nat} (h : ¬ 0 < d) (hq : q = 0) : isOpen (d, q) = false := by simp [isOpen, h, hq]
theorem open_ml {d : Int} {q : Nat} (hq : q ≠ 0) : isOpen (d, q) = true := by simp [isOpen, hq]
end Go.Proofs.Qxb6601764a.Pl
