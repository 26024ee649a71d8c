/-
  THE WALK OF multiLineEnd's MODEL (22): it answers the plain function.
-/
import Derived.Test.Qxb6601764aMulti
namespace Go.Proofs.Qxb6601764a
open Go.ChangeShapes Go.WideShapes Go.ChangeAt Go.RowKit

set_option maxHeartbeats 1000000 in
theorem multiModel34_any (s : ByteArray) (i : Nat) (w : World) (hs : s.size ≤ 1048576) (hi : (i : Int) ≤ 9223372036854775807) :
    Calls Try.prog 22 #[.string s, .int .i64 i, .string ⟨#[34, 34, 34]⟩] w fun e w' => e = .returned (Pl.mlv s 34 i) ∧ w' = w := by
  have HS : Hid (Pl.FM s 34 i i = Pl.G s 34 0 i) := Pl.FM_start _ _ _
  have hq0 : ((⟨#[34, 34, 34]⟩ : ByteArray)[0].toNat : Int) = 34 := rfl
  go_enter Try.func22, Try.ntmps22
  go_wp2
  go_loop [10] (fun j => ∃ k : Nat, (k : Int) ≤ 9223372036854775807 ∧ i ≤ k ∧ j = .int .i64 k ∧ Pl.FM s 34 i k = Pl.G s 34 0 i) (fun j => s.size + 1 - (intOf j).toNat)
  case atStart => exact ⟨i, by omega, by omega, rfl, HS.out⟩
  case round =>
    obtain ⟨k, hk, hik, rfl, hE⟩ := hrel
    have HE : Hid (Pl.FM s 34 i k = Pl.G s 34 0 i) := hE
    clear hE
    by_cases hlt : k + 2 < s.size
    · have hlt0 : k < s.size := by omega
      have hlt1 : k + 1 < s.size := by omega
      have HK : Hid (Pl.bt s k = s[k].toNat ∧ Pl.bt s (k + 1) = s[k + 1].toNat ∧ Pl.bt s (k + 2) = s[k + 2].toNat) := ⟨Pl.bt_lt hlt0, Pl.bt_lt hlt1, Pl.bt_lt hlt⟩
      by_cases hq1 : (s[k].toNat : Int) = 34
      · by_cases hq2 : (s[k + 1].toNat : Int) = 34
        · by_cases hq3 : (s[k + 2].toNat : Int) = 34
          · go_wp2
            go_loop [11, 12] (fun n m => ∃ c p : Nat, ∃ z : Int, z = p - 1 ∧ i ≤ p ∧ p ≤ k ∧ n = .int .i64 c ∧ m = .int .i64 z ∧ c + Pl.bs s i p = Pl.bs s i k) (fun _ m => (intOf m + 1).toNat)
            case atStart => exact ⟨0, k, _, rfl, by omega, by omega, rfl, rfl, by omega⟩
            case round =>
              obtain ⟨c, p, z, hz, hip, hpk, rfl, rfl, hcb⟩ := hrel
              have HC : Hid (c + Pl.bs s i p = Pl.bs s i k) := hcb
              have hck : c ≤ k := by have := Pl.bs_le s i k; omega
              clear hcb
              by_cases hpi : i < p
              · obtain ⟨p', rfl⟩ : ∃ p', p = p' + 1 := ⟨p - 1, by omega⟩
                obtain rfl : z = (p' : Int) := by omega
                clear hz
                have hps : p' < s.size := by omega
                have HP : Hid (Pl.bt s p' = s[p'].toNat) := Pl.bt_lt hps
                by_cases hc92 : (s[p'].toNat : Int) = 92
                · go_wp2
                  have hb := HP.out
                  have hcb := HC.out
                  have hz : Pl.bs s i (p' + 1) = Pl.bs s i p' + 1 := Pl.bs_hit (by omega) (by omega)
                  go_round
                  case rel => exact ⟨c + 1, p', _, rfl, by omega, by omega, by go_num, by go_num, by omega⟩
                  case measure => simp [intOf]
                · have hcc : c = Pl.bs s i k := by
                    have hb := HP.out
                    have hcb := HC.out
                    have hz : Pl.bs s i (p' + 1) = 0 := Pl.bs_no (by omega)
                    omega
                  have HCC : Hid (c = Pl.bs s i k) := hcc
                  clear hcc
                  by_cases hodd : (c : Int) % 2 = 1
                  · go_wp2
                    have hb := HK.out
                    have hcb := HCC.out
                    go_round
                    case rel => exact ⟨k + 1, by omega, by omega, by go_num, by rw [← HE.out]; exact Pl.FM_odd hik rfl (by omega)⟩
                    case measure => simp [intOf]; omega
                  · have HT : Hid (Pl.G s 34 3 (k + 3) = Pl.G s 34 0 i) := by
                      have hb := HK.out
                      have hcb := HCC.out
                      rw [← HE.out]
                      exact (Pl.FM_three hlt (by omega) (by omega) (by omega) (by omega)).symm
                    go_wp2
                    go_loop [13] (fun e => ∃ m : Nat, k + 3 ≤ m ∧ m ≤ s.size ∧ e = .int .i64 m ∧ Pl.G s 34 (m - k) m = Pl.G s 34 0 i) (fun e => s.size - (intOf e).toNat)
                    case atStart => exact ⟨k + 3, by omega, by omega, by go_num, by rw [show k + 3 - k = 3 by omega]; exact HT.out⟩
                    case round =>
                      obtain ⟨m, hm3, hms, rfl, hG⟩ := hrel
                      have HG : Hid (Pl.G s 34 (m - k) m = Pl.G s 34 0 i) := hG
                      clear hG
                      by_cases hml : m < s.size
                      · have HM : Hid (Pl.bt s m = s[m].toNat) := Pl.bt_lt hml
                        by_cases hqm : (s[m].toNat : Int) = 34
                        · go_wp2
                          have hb := HM.out
                          go_round
                          case rel => exact ⟨m + 1, by omega, by omega, by go_num, by rw [← HG.out, show m + 1 - k = m - k + 1 by omega]; exact (Pl.G_q hml (by omega)).symm⟩
                          case measure => simp [intOf]; omega
                        · go_wp2
                          have hb := HM.out
                          have e1 : Pl.G s 34 0 i = (m, true) := by rw [← HG.out]; exact Pl.G_run (by omega) (fun _ => by omega) (by omega)
                          rw [Pl.mlv_of e1]
                          go_ret2
                          exact ⟨rfl, rfl⟩
                      · go_wp2
                        have e1 : Pl.G s 34 0 i = (m, true) := by rw [← HG.out]; exact Pl.G_run (by omega) (fun _ => by omega) (by omega)
                        rw [Pl.mlv_of e1]
                        go_ret2
                        exact ⟨rfl, rfl⟩
              · have hcc : c = Pl.bs s i k := by
                  have hcb := HC.out
                  have hz : Pl.bs s i p = 0 := Pl.bs_lo (by omega)
                  omega
                have HCC : Hid (c = Pl.bs s i k) := hcc
                clear hcc
                have hzi : z < (i : Int) := by omega
                by_cases hodd : (c : Int) % 2 = 1
                · go_wp2
                  have hb := HK.out
                  have hcb := HCC.out
                  go_round
                  case rel => exact ⟨k + 1, by omega, by omega, by go_num, by rw [← HE.out]; exact Pl.FM_odd hik rfl (by omega)⟩
                  case measure => simp [intOf]; omega
                · have HT : Hid (Pl.G s 34 3 (k + 3) = Pl.G s 34 0 i) := by
                    have hb := HK.out
                    have hcb := HCC.out
                    rw [← HE.out]
                    exact (Pl.FM_three hlt (by omega) (by omega) (by omega) (by omega)).symm
                  go_wp2
                  go_loop [13] (fun e => ∃ m : Nat, k + 3 ≤ m ∧ m ≤ s.size ∧ e = .int .i64 m ∧ Pl.G s 34 (m - k) m = Pl.G s 34 0 i) (fun e => s.size - (intOf e).toNat)
                  case atStart => exact ⟨k + 3, by omega, by omega, by go_num, by rw [show k + 3 - k = 3 by omega]; exact HT.out⟩
                  case round =>
                    obtain ⟨m, hm3, hms, rfl, hG⟩ := hrel
                    have HG : Hid (Pl.G s 34 (m - k) m = Pl.G s 34 0 i) := hG
                    clear hG
                    by_cases hml : m < s.size
                    · have HM : Hid (Pl.bt s m = s[m].toNat) := Pl.bt_lt hml
                      by_cases hqm : (s[m].toNat : Int) = 34
                      · go_wp2
                        have hb := HM.out
                        go_round
                        case rel => exact ⟨m + 1, by omega, by omega, by go_num, by rw [← HG.out, show m + 1 - k = m - k + 1 by omega]; exact (Pl.G_q hml (by omega)).symm⟩
                        case measure => simp [intOf]; omega
                      · go_wp2
                        have hb := HM.out
                        have e1 : Pl.G s 34 0 i = (m, true) := by rw [← HG.out]; exact Pl.G_run (by omega) (fun _ => by omega) (by omega)
                        rw [Pl.mlv_of e1]
                        go_ret2
                        exact ⟨rfl, rfl⟩
                    · go_wp2
                      have e1 : Pl.G s 34 0 i = (m, true) := by rw [← HG.out]; exact Pl.G_run (by omega) (fun _ => by omega) (by omega)
                      rw [Pl.mlv_of e1]
                      go_ret2
                      exact ⟨rfl, rfl⟩
          · go_wp2
            have hb := HK.out
            go_round
            case rel => exact ⟨k + 1, by omega, by omega, by go_num, by rw [← HE.out]; exact Pl.FM_miss hlt hik (by omega)⟩
            case measure => simp [intOf]; omega
        · go_wp2
          have hb := HK.out
          go_round
          case rel => exact ⟨k + 1, by omega, by omega, by go_num, by rw [← HE.out]; exact Pl.FM_miss hlt hik (by omega)⟩
          case measure => simp [intOf]; omega
      · go_wp2
        have hb := HK.out
        go_round
        case rel => exact ⟨k + 1, by omega, by omega, by go_num, by rw [← HE.out]; exact Pl.FM_miss hlt hik (by omega)⟩
        case measure => simp [intOf]; omega
    · go_wp2
      have e1 := HE.out
      rw [Pl.FM_end (by omega)] at e1
      rw [Pl.mlv_of e1.symm]
      go_ret2
      exact ⟨rfl, rfl⟩

set_option maxHeartbeats 1000000 in
theorem multiModel39_any (s : ByteArray) (i : Nat) (w : World) (hs : s.size ≤ 1048576) (hi : (i : Int) ≤ 9223372036854775807) :
    Calls Try.prog 22 #[.string s, .int .i64 i, .string ⟨#[39, 39, 39]⟩] w fun e w' => e = .returned (Pl.mlv s 39 i) ∧ w' = w := by
  have HS : Hid (Pl.FM s 39 i i = Pl.G s 39 0 i) := Pl.FM_start _ _ _
  have hq0 : ((⟨#[39, 39, 39]⟩ : ByteArray)[0].toNat : Int) = 39 := rfl
  go_enter Try.func22, Try.ntmps22
  go_wp2
  go_loop [10] (fun j => ∃ k : Nat, (k : Int) ≤ 9223372036854775807 ∧ i ≤ k ∧ j = .int .i64 k ∧ Pl.FM s 39 i k = Pl.G s 39 0 i) (fun j => s.size + 1 - (intOf j).toNat)
  case atStart => exact ⟨i, by omega, by omega, rfl, HS.out⟩
  case round =>
    obtain ⟨k, hk, hik, rfl, hE⟩ := hrel
    have HE : Hid (Pl.FM s 39 i k = Pl.G s 39 0 i) := hE
    clear hE
    by_cases hlt : k + 2 < s.size
    · have hlt0 : k < s.size := by omega
      have hlt1 : k + 1 < s.size := by omega
      have HK : Hid (Pl.bt s k = s[k].toNat ∧ Pl.bt s (k + 1) = s[k + 1].toNat ∧ Pl.bt s (k + 2) = s[k + 2].toNat) := ⟨Pl.bt_lt hlt0, Pl.bt_lt hlt1, Pl.bt_lt hlt⟩
      by_cases hq1 : (s[k].toNat : Int) = 39
      · by_cases hq2 : (s[k + 1].toNat : Int) = 39
        · by_cases hq3 : (s[k + 2].toNat : Int) = 39
          · have HT : Hid (Pl.G s 39 3 (k + 3) = Pl.G s 39 0 i) := by
              have hb := HK.out
              rw [← HE.out]
              exact (Pl.FM_three hlt (by omega) (by omega) (by omega) (by omega)).symm
            go_wp2
            go_loop [13] (fun e => ∃ m : Nat, k + 3 ≤ m ∧ m ≤ s.size ∧ e = .int .i64 m ∧ Pl.G s 39 (m - k) m = Pl.G s 39 0 i) (fun e => s.size - (intOf e).toNat)
            case atStart => exact ⟨k + 3, by omega, by omega, by go_num, by rw [show k + 3 - k = 3 by omega]; exact HT.out⟩
            case round =>
              obtain ⟨m, hm3, hms, rfl, hG⟩ := hrel
              have HG : Hid (Pl.G s 39 (m - k) m = Pl.G s 39 0 i) := hG
              clear hG
              by_cases hml : m < s.size
              · have HM : Hid (Pl.bt s m = s[m].toNat) := Pl.bt_lt hml
                by_cases hqm : (s[m].toNat : Int) = 39
                · go_wp2
                  have hb := HM.out
                  go_round
                  case rel => exact ⟨m + 1, by omega, by omega, by go_num, by rw [← HG.out, show m + 1 - k = m - k + 1 by omega]; exact (Pl.G_q hml (by omega)).symm⟩
                  case measure => simp [intOf]; omega
                · go_wp2
                  have hb := HM.out
                  have e1 : Pl.G s 39 0 i = (m, true) := by rw [← HG.out]; exact Pl.G_run (by omega) (fun _ => by omega) (by omega)
                  rw [Pl.mlv_of e1]
                  go_ret2
                  exact ⟨rfl, rfl⟩
              · go_wp2
                have e1 : Pl.G s 39 0 i = (m, true) := by rw [← HG.out]; exact Pl.G_run (by omega) (fun _ => by omega) (by omega)
                rw [Pl.mlv_of e1]
                go_ret2
                exact ⟨rfl, rfl⟩
          · go_wp2
            have hb := HK.out
            go_round
            case rel => exact ⟨k + 1, by omega, by omega, by go_num, by rw [← HE.out]; exact Pl.FM_miss hlt hik (by omega)⟩
            case measure => simp [intOf]; omega
        · go_wp2
          have hb := HK.out
          go_round
          case rel => exact ⟨k + 1, by omega, by omega, by go_num, by rw [← HE.out]; exact Pl.FM_miss hlt hik (by omega)⟩
          case measure => simp [intOf]; omega
      · go_wp2
        have hb := HK.out
        go_round
        case rel => exact ⟨k + 1, by omega, by omega, by go_num, by rw [← HE.out]; exact Pl.FM_miss hlt hik (by omega)⟩
        case measure => simp [intOf]; omega
    · go_wp2
      have e1 := HE.out
      rw [Pl.FM_end (by omega)] at e1
      rw [Pl.mlv_of e1.symm]
      go_ret2
      exact ⟨rfl, rfl⟩

theorem multiModel_any (s : ByteArray) (i : Nat) (c : ByteArray) (q : Nat) (w : World) (hs : s.size ≤ 1048576) (hi : (i : Int) ≤ 9223372036854775807) (hq : q = 34 ∨ q = 39) (hc : Hid (c = Pl.clo q false)) :
    Calls Try.prog 22 #[.string s, .int .i64 i, .string c] w fun e w' => e = .returned (Pl.mlv s q i) ∧ w' = w := by
  have hc := hc.out
  rcases hq with rfl | rfl
  · obtain rfl : c = ⟨#[34, 34, 34]⟩ := hc
    exact multiModel34_any s i w hs hi
  · obtain rfl : c = ⟨#[39, 39, 39]⟩ := hc
    exact multiModel39_any s i w hs hi
end Go.Proofs.Qxb6601764a
