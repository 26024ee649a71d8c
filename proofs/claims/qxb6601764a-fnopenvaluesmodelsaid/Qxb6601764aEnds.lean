/-
  THE WALKS OF stringEnd (24) AND OF ITS MODEL (18): each answers the plain function.
-/
import Derived.Test.Qxb6601764aRows
import Derived.Test.Qxb6601764aPlain
import Derived.WalkKit
import Derived.ProofKit
import Derived.WalkLawsBesides
import Derived.WalkSpells
namespace Go.Proofs.Qxb6601764a
open Go.ChangeShapes Go.WideShapes Go.ChangeAt Go.RowKit

theorem ret_int {k : IntKind} {a b : Int} (h : a = b) : Ending.returned (.int k a) = .returned (.int k b) := by rw [h]

set_option maxHeartbeats 400000 in
theorem stringEnd_any (s : ByteArray) (i : Nat) (w : World) (hs : s.size ≤ 1048576) (hi : i < s.size) :
    Calls Try.prog 24 #[.string s, .int .i64 i] w fun e w' => e = .returned (.int .i64 (Pl.E s (Pl.bt s i) (i + 1) : Nat)) ∧ w' = w := by
  have HB : Hid (Pl.bt s i = s[i].toNat) := Pl.bt_lt hi
  go_enter Try.func24, Try.ntmps24
  go_wp2
  go_loop [6] (fun j => ∃ k : Nat, k ≤ s.size + 1 ∧ i < k ∧ j = .int .i64 k ∧ Pl.E s (Pl.bt s i) k = Pl.E s (Pl.bt s i) (i + 1)) (fun j => s.size + 1 - (intOf j).toNat)
  case atStart => exact ⟨i + 1, by omega, by omega, by go_num, rfl⟩
  case round =>
    obtain ⟨k, hk, hik, rfl, hE⟩ := hrel
    have HE : Hid (Pl.E s (Pl.bt s i) k = Pl.E s (Pl.bt s i) (i + 1)) := hE
    clear hE
    by_cases hlt : k < s.size
    · have HK : Hid (Pl.bt s k = s[k].toNat) := Pl.bt_lt hlt
      go_wp2
      · have h1 : (s[i].toNat : Int) = 34 := by assumption
        have h2 : (s[k].toNat : Int) = 92 := beq_iff_eq.1 (by assumption)
        have hb := HB.out
        have hc := HK.out
        go_round
        case rel => exact ⟨k + 2, by omega, by omega, by go_num, by rw [← HE.out]; exact (Pl.E_esc hlt (by omega) (by omega)).symm⟩
        case measure => simp [intOf]; omega
      · have h1 : (s[i].toNat : Int) = 34 := by assumption
        have h2 : ¬ (s[k].toNat : Int) = 92 := beq_eq_false_iff_ne.1 (by assumption)
        have h3 : (s[k].toNat : Int) = 34 := beq_iff_eq.1 (by assumption)
        have hb := HB.out
        have hc := HK.out
        go_ret
        exact ⟨ret_int (by rw [← HE.out, Pl.E_hit hlt (by omega) (by omega)]; simp), rfl⟩
      · have h1 : (s[i].toNat : Int) = 34 := by assumption
        have h2 : ¬ (s[k].toNat : Int) = 92 := beq_eq_false_iff_ne.1 (by assumption)
        have h3 : ¬ (s[k].toNat : Int) = 34 := beq_eq_false_iff_ne.1 (by assumption)
        have hb := HB.out
        have hc := HK.out
        go_round
        case rel => exact ⟨k + 1, by omega, by omega, by go_num, by rw [← HE.out]; exact (Pl.E_next hlt (by omega) (by omega)).symm⟩
        case measure => simp [intOf]; omega
      · have h1 : ¬ (s[i].toNat : Int) = 34 := by assumption
        have h3 : (s[k].toNat : Int) = s[i].toNat := beq_iff_eq.1 (by assumption)
        have hb := HB.out
        have hc := HK.out
        go_ret
        exact ⟨ret_int (by rw [← HE.out, Pl.E_hit hlt (by omega) (by omega)]; simp), rfl⟩
      · have h1 : ¬ (s[i].toNat : Int) = 34 := by assumption
        have h3 : ¬ (s[k].toNat : Int) = s[i].toNat := beq_eq_false_iff_ne.1 (by assumption)
        have hb := HB.out
        have hc := HK.out
        go_round
        case rel => exact ⟨k + 1, by omega, by omega, by go_num, by rw [← HE.out]; exact (Pl.E_next hlt (by omega) (by omega)).symm⟩
        case measure => simp [intOf]; omega
    · go_wp2
      go_ret
      exact ⟨ret_int (by rw [← HE.out, Pl.E_end (by omega)]), rfl⟩

set_option maxHeartbeats 400000 in
theorem modelStringEnd_any (s : ByteArray) (i : Nat) (w : World) (hs : s.size ≤ 1048576) (hi : i < s.size) :
    Calls Try.prog 18 #[.string s, .int .i64 i] w fun e w' => e = .returned (.int .i64 (Pl.E s (Pl.bt s i) (i + 1) : Nat)) ∧ w' = w := by
  have HB : Hid (Pl.bt s i = s[i].toNat) := Pl.bt_lt hi
  have HS : Hid (Pl.F s (Pl.bt s i) (i + 1) (i + 1) = Pl.E s (Pl.bt s i) (i + 1)) := Pl.F_start _ _ _
  go_enter Try.func18, Try.ntmps18
  go_wp2
  go_loop [6] (fun j => ∃ k : Nat, k ≤ s.size ∧ i < k ∧ j = .int .i64 k ∧ Pl.F s (Pl.bt s i) (i + 1) k = Pl.E s (Pl.bt s i) (i + 1)) (fun j => s.size - (intOf j).toNat)
  case atStart => exact ⟨i + 1, by omega, by omega, by go_num, HS.out⟩
  case round =>
    obtain ⟨k, hk, hik, rfl, hE⟩ := hrel
    have HE : Hid (Pl.F s (Pl.bt s i) (i + 1) k = Pl.E s (Pl.bt s i) (i + 1)) := hE
    clear hE
    by_cases hlt : k < s.size
    · have HK : Hid (Pl.bt s k = s[k].toNat) := Pl.bt_lt hlt
      go_wp2
      · have h3 : ¬ (s[k].toNat : Int) = s[i].toNat := by
          have h : ((s[k].toNat : Int) != s[i].toNat) = true := by assumption
          simpa using h
        have hb := HB.out
        have hc := HK.out
        go_round
        case rel => exact ⟨k + 1, by omega, by omega, by go_num, by rw [← HE.out]; exact Pl.F_miss hlt (by omega) (by omega)⟩
        case measure => simp [intOf]; omega
      · go_loop [7, 8] (fun n m => ∃ c p : Nat, i ≤ p ∧ p < k ∧ n = .int .i64 c ∧ m = .int .i64 p ∧ c + Pl.bs s (i + 1) (p + 1) = Pl.bs s (i + 1) k) (fun _ m => (intOf m).toNat)
        case atStart => exact ⟨0, k - 1, by omega, by omega, rfl, by go_num, by rw [Nat.sub_add_cancel (by omega)]; omega⟩
        case round =>
          obtain ⟨c, p, hip, hpk, rfl, rfl, hcb⟩ := hrel
          have HC : Hid (c + Pl.bs s (i + 1) (p + 1) = Pl.bs s (i + 1) k) := hcb
          have hck : c ≤ k := by have := Pl.bs_le s (i + 1) k; omega
          clear hcb
          by_cases hpi : i < p
          · have hps : p < s.size := by omega
            have HP : Hid (Pl.bt s p = s[p].toNat) := Pl.bt_lt hps
            go_wp2
            all_goals
              have h34 : (s[i].toNat : Int) = 34 := beq_iff_eq.1 (by assumption)
              have hki : (s[k].toNat : Int) = s[i].toNat := by
                have h : ((s[k].toNat : Int) != s[i].toNat) = false := by assumption
                simpa using h
            · have h92 : (s[p].toNat : Int) = 92 := beq_iff_eq.1 (by assumption)
              have hcb := HC.out
              have hpp := HP.out
              have hz : Pl.bs s (i + 1) (p + 1) = Pl.bs s (i + 1) p + 1 := Pl.bs_hit (by omega) (by omega)
              go_round
              case rel => exact ⟨c + 1, p - 1, by omega, by omega, by go_num, by go_num, by rw [Nat.sub_add_cancel (by omega)]; omega⟩
              case measure => simp [intOf]; omega
            · have hodd : (c : Int) % 2 = 1 := beq_iff_eq.1 (by assumption)
              have hb := HB.out
              have hc := HK.out
              have hcb := HC.out
              have hz : Pl.bs s (i + 1) (p + 1) = 0 := Pl.bs_no (by have := HP.out; have h : ¬ (s[p].toNat : Int) = 92 := beq_eq_false_iff_ne.1 (by assumption); omega)
              go_round
              case rel => exact ⟨k + 1, by omega, by omega, by go_num, by rw [← HE.out]; exact Pl.F_odd (by omega) (by omega) (by omega)⟩
              case measure => simp [intOf]; omega
            · have hodd : ¬ (c : Int) % 2 = 1 := beq_eq_false_iff_ne.1 (by assumption)
              have hb := HB.out
              have hc := HK.out
              have hcb := HC.out
              have hz : Pl.bs s (i + 1) (p + 1) = 0 := Pl.bs_no (by have := HP.out; have h : ¬ (s[p].toNat : Int) = 92 := beq_eq_false_iff_ne.1 (by assumption); omega)
              go_ret
              exact ⟨ret_int (by rw [← HE.out, Pl.F_even hlt (by omega) (by omega) (by omega)]; simp), rfl⟩
          · go_wp2
            all_goals
              have h34 : (s[i].toNat : Int) = 34 := beq_iff_eq.1 (by assumption)
              have hki : (s[k].toNat : Int) = s[i].toNat := by
                have h : ((s[k].toNat : Int) != s[i].toNat) = false := by assumption
                simpa using h
            · have hodd : (c : Int) % 2 = 1 := beq_iff_eq.1 (by assumption)
              have hb := HB.out
              have hc := HK.out
              have hcb := HC.out
              have hz : Pl.bs s (i + 1) (p + 1) = 0 := Pl.bs_lo (by omega)
              go_round
              case rel => exact ⟨k + 1, by omega, by omega, by go_num, by rw [← HE.out]; exact Pl.F_odd (by omega) (by omega) (by omega)⟩
              case measure => simp [intOf]; omega
            · have hodd : ¬ (c : Int) % 2 = 1 := beq_eq_false_iff_ne.1 (by assumption)
              have hb := HB.out
              have hc := HK.out
              have hcb := HC.out
              have hz : Pl.bs s (i + 1) (p + 1) = 0 := Pl.bs_lo (by omega)
              go_ret
              exact ⟨ret_int (by rw [← HE.out, Pl.F_even hlt (by omega) (by omega) (by omega)]; simp), rfl⟩
      · have h1 : ¬ (s[i].toNat : Int) = 34 := beq_eq_false_iff_ne.1 (by assumption)
        have h3 : (s[k].toNat : Int) = s[i].toNat := by
          have h : ((s[k].toNat : Int) != s[i].toNat) = false := by assumption
          simpa using h
        have hb := HB.out
        have hc := HK.out
        go_ret
        exact ⟨ret_int (by rw [← HE.out, Pl.F_hit hlt (by omega) (by omega)]; simp), rfl⟩
    · go_wp2
      go_ret
      exact ⟨ret_int (by rw [← HE.out, Pl.F_end (by omega)]), rfl⟩
end Go.Proofs.Qxb6601764a
