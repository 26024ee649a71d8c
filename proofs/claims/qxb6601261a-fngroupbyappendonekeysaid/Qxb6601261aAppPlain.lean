/-
  ONE KEY MORE: what becomes of the members. No Go in sight.
-/
import Derived.Test.Qxb6601261aGroup
namespace Go.Proofs.Qxb6601261a
section
variable {f : Nat → Int} {m n k0 p : Nat} {z : Int} {h h2 : Nat → Int}

theorem app_pos_lo {k i : Nat} (hi : i ≤ m) (hz : ¬ (0 ≤ z ∧ z < k)) : Pl.pos (Pl.app f m z) (m + 1) k i = Pl.pos f m k i := by
  unfold Pl.pos
  rw [Pl.app_S, if_neg hz, Pl.app_cnt hi, Nat.add_zero]
theorem app_pos_hi {k i : Nat} (hi : i ≤ m) (hz : 0 ≤ z ∧ z < k) : Pl.pos (Pl.app f m z) (m + 1) k i = Pl.pos f m k i + 1 := by
  unfold Pl.pos
  rw [Pl.app_S, if_pos hz, Pl.app_cnt hi]
  omega
theorem put_app (H2 : Put (Pl.app f m z) (m + 1) (m + 1) h2) {k i : Nat} (hi : i < m) (hk : f i = k) : h2 (Pl.pos (Pl.app f m z) (m + 1) k i) = i :=
  H2 i (by omega) k (by rw [Pl.app_lt hi]; exact hk)
theorem same_neg (hz : z < 0) (H : Put f m m h) (H2 : Put (Pl.app f m z) (m + 1) (m + 1) h2) (hp : p < Pl.S f m n) : h2 p = h p := by
  obtain ⟨k, i, _, hi, hf, rfl⟩ := Pl.pos_find hp
  have e := put_app H2 hi hf
  rw [app_pos_lo (by omega) (by omega)] at e
  rw [e, H i hi k hf]
theorem same_lo (hz : z = k0) (H : Put f m m h) (H2 : Put (Pl.app f m z) (m + 1) (m + 1) h2) (hp : p < Pl.S f m (k0 + 1)) : h2 p = h p := by
  obtain ⟨k, i, hk, hi, hf, rfl⟩ := Pl.pos_find hp
  have e := put_app H2 hi hf
  rw [app_pos_lo (by omega) (by omega)] at e
  rw [e, H i hi k hf]
theorem same_at (hz : z = k0) (H2 : Put (Pl.app f m z) (m + 1) (m + 1) h2) : h2 (Pl.S f m (k0 + 1)) = m := by
  have e := H2 m (by omega) k0 (by rw [Pl.app_at]; exact hz)
  rw [app_pos_lo (Nat.le_refl _) (by omega)] at e
  exact e
theorem same_hi (hz : z = k0) (H : Put f m m h) (H2 : Put (Pl.app f m z) (m + 1) (m + 1) h2) (h1 : Pl.S f m (k0 + 1) ≤ p) (hp : p < Pl.S f m n) : h2 (p + 1) = h p := by
  obtain ⟨k, i, _, hi, hf, rfl⟩ := Pl.pos_find hp
  have hk : k0 < k := by
    by_cases hlt : k0 < k
    · exact hlt
    · have h3 := Pl.pos_lt (m := m) hi hf
      have h4 := Pl.S_mono f m (show k + 1 ≤ k0 + 1 by omega)
      omega
  have e := put_app H2 hi hf
  rw [app_pos_hi (by omega) (by omega)] at e
  rw [e, H i hi k hf]
theorem start_neg (hz : z < 0) (k : Nat) : Pl.S (Pl.app f m z) (m + 1) k = Pl.S f m k := by rw [Pl.app_S, if_neg (by omega)]; rfl
theorem start_lo (hz : z = k0) {k : Nat} (h : k ≤ k0) : Pl.S (Pl.app f m z) (m + 1) k = Pl.S f m k := by rw [Pl.app_S, if_neg (by omega)]; rfl
theorem start_hi (hz : z = k0) {k : Nat} (h : k0 < k) : Pl.S (Pl.app f m z) (m + 1) k = Pl.S f m k + 1 := by rw [Pl.app_S, if_pos (by omega)]
theorem app_range {j : Nat} (hf : ∀ j, j < m → -1 ≤ f j ∧ f j < n) (h1 : -1 ≤ z) (h2 : z < n) (_hj : j < m + 1) : -1 ≤ Pl.app f m z j ∧ Pl.app f m z j < n := by
  unfold Pl.app
  split
  · exact hf j ‹_›
  · exact ⟨h1, h2⟩
end
end Go.Proofs.Qxb6601261a
