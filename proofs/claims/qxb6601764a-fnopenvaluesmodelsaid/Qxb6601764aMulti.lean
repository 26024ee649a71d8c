/-
  THE WALKS OF multiLineEnd (25) AND OF ITS MODEL (22): each answers the plain function.
-/
import Derived.Test.Qxb6601764aEnds
import Derived.RegionTactic
import Derived.ChangeAlike
import Derived.Deep.QuietTactic
import Derived.BigQuiet
namespace Go.Proofs.Qxb6601764a
open Go.ChangeShapes Go.WideShapes Go.ChangeAt Go.RowKit

/-- The three closing quotes; or nothing, once they are read. -/
def Pl.clo (q : Nat) (b : Bool) : ByteArray := if b then ⟨#[]⟩ else if q = 34 then ⟨#[34, 34, 34]⟩ else ⟨#[39, 39, 39]⟩
/-- What multiLineEnd hands back. -/
def Pl.mlv (s : ByteArray) (q k : Nat) : Value := .tuple #[.int .i64 ((Pl.G s q 0 k).1 : Nat), .string (Pl.clo q (Pl.G s q 0 k).2)]
theorem Pl.mlv_of {s : ByteArray} {q k m : Nat} {b : Bool} (h : Pl.G s q 0 k = (m, b)) : Pl.mlv s q k = .tuple #[.int .i64 (m : Nat), .string (Pl.clo q b)] := by
  unfold Pl.mlv; rw [h]
theorem Pl.mlv_congr {s : ByteArray} {q k m : Nat} (h : Pl.G s q 0 k = Pl.G s q 0 m) : Pl.mlv s q k = Pl.mlv s q m := by
  unfold Pl.mlv; rw [h]

set_option maxHeartbeats 400000 in
theorem multi34_any (s : ByteArray) (i : Nat) (w : World) (hs : s.size ≤ 1048576) (hi : (i : Int) ≤ 9223372036854775807) :
    Calls Try.prog 25 #[.string s, .int .i64 i, .string ⟨#[34, 34, 34]⟩] w fun e w' => e = .returned (Pl.mlv s 34 i) ∧ ∃ n, w' = w.drewN n := by
  go_enter Try.func25, Try.ntmps25
  go_wp2
  go_loopw [8] (fun j wr => ∃ k n : Nat, (k : Int) ≤ 9223372036854775807 ∧ j = .int .i64 k ∧ wr = w.drewN n ∧ Pl.G s 34 0 k = Pl.G s 34 0 i) (fun j _ => s.size + 1 - (intOf j).toNat)
  case atStart => exact ⟨i, 0, by omega, rfl, rfl, rfl⟩
  case round =>
    obtain ⟨k, n, hk, rfl, rfl, hE⟩ := hrel
    have HE : Hid (Pl.G s 34 0 k = Pl.G s 34 0 i) := hE
    clear hE
    by_cases hlt : k < s.size
    · have HK : Hid (Pl.bt s k = s[k].toNat) := Pl.bt_lt hlt
      by_cases h92 : (s[k].toNat : Int) = 92
      · go_wp2
        have hc := HK.out
        go_roundw
        case rel => exact ⟨k + 2, n, by omega, by go_num, rfl, by rw [← HE.out]; exact (Pl.G_esc hlt (by omega) rfl (by omega)).symm⟩
        case measure => simp [intOf]; omega
      · go_wp2
        go_quiet (fail)
        go_wp2
        · have hqq : (s[k].toNat : Int) = 34 := beq_iff_eq.1 (show ((s[k].toNat : Int) == ((⟨#[34, 34, 34]⟩ : ByteArray)[0].toNat : Int)) = true by assumption)
          go_loopw [9] (fun r wr => ∃ e m : Nat, k ≤ e ∧ e ≤ s.size ∧ r = .int .i64 e ∧ wr = w.drewN m ∧ Pl.G s 34 (e - k) e = Pl.G s 34 0 k) (fun r _ => s.size - (intOf r).toNat)
          case atStart => exact ⟨k, n + nq, by omega, by omega, rfl, by simp, by simp⟩
          case round =>
            obtain ⟨e, m, hke, hes, rfl, rfl, hG⟩ := hrel
            have HG : Hid (Pl.G s 34 (e - k) e = Pl.G s 34 0 k) := hG
            clear hG
            by_cases hel : e < s.size
            · have HB : Hid (Pl.bt s e = s[e].toNat) := Pl.bt_lt hel
              have hel2 : (e : Int) < (s.size : Int) := by omega
              go_wp2
              go_quiet (fail)
              go_wp2
              · have hqe : (s[e].toNat : Int) = 34 := beq_iff_eq.1 (show ((s[e].toNat : Int) == ((⟨#[34, 34, 34]⟩ : ByteArray)[0].toNat : Int)) = true by assumption)
                have hb := HB.out
                go_roundw
                case rel => exact ⟨e + 1, m + nq, by omega, by omega, by go_num, by simp, by rw [← HG.out, show e + 1 - k = e - k + 1 by omega]; exact (Pl.G_q hel (by omega)).symm⟩
                case measure => simp [intOf]; omega
              · have hqe : ¬ (s[e].toNat : Int) = 34 := beq_eq_false_iff_ne.1 (show ((s[e].toNat : Int) == ((⟨#[34, 34, 34]⟩ : ByteArray)[0].toNat : Int)) = false by assumption)
                have hb := HB.out
                have h3 : (3 : Int) ≤ (e : Int) - (k : Int) := by assumption
                have e1 : Pl.G s 34 0 i = (e, true) := by rw [← HE.out, ← HG.out]; exact Pl.G_run (by omega) (fun _ => by omega) (by omega)
                rw [Pl.mlv_of e1]
                go_ret2
                exact ⟨rfl, m + nq, by simp⟩
              · have hqe : ¬ (s[e].toNat : Int) = 34 := beq_eq_false_iff_ne.1 (show ((s[e].toNat : Int) == ((⟨#[34, 34, 34]⟩ : ByteArray)[0].toNat : Int)) = false by assumption)
                have hb := HB.out
                have hc := HK.out
                have h3 : (e : Int) - (k : Int) < 3 := by assumption
                have hne : e ≠ k := by intro h; subst h; omega
                go_roundw
                case rel => exact ⟨e, m + nq, by omega, rfl, by simp, by rw [← HE.out, ← HG.out]; exact (Pl.G_forget (fun _ => by omega) (by omega)).symm⟩
                case measure => simp [intOf]; omega
            · have hd : decide ((e : Int) < (s.size : Int)) = false := decide_eq_false (by omega)
              go_wp2
              go_quiet (fail)
              go_wp2
              · have h3 : (3 : Int) ≤ (e : Int) - (k : Int) := by assumption
                have e1 : Pl.G s 34 0 i = (e, true) := by rw [← HE.out, ← HG.out]; exact Pl.G_run (by omega) (fun _ => by omega) (by omega)
                rw [Pl.mlv_of e1]
                go_ret2
                exact ⟨rfl, m + nq, by simp⟩
              · have h3 : (e : Int) - (k : Int) < 3 := by assumption
                go_roundw
                case rel => exact ⟨e, m + nq, by omega, rfl, by simp, by rw [← HE.out, ← HG.out]; exact (Pl.G_forget (fun _ => by omega) (by omega)).symm⟩
                case measure => simp [intOf]; omega
        · have hqq : ¬ (s[k].toNat : Int) = 34 := beq_eq_false_iff_ne.1 (show ((s[k].toNat : Int) == ((⟨#[34, 34, 34]⟩ : ByteArray)[0].toNat : Int)) = false by assumption)
          have hc := HK.out
          go_roundw
          case rel => exact ⟨k + 1, n + nq, by omega, by go_num, by simp, by rw [← HE.out]; exact (Pl.G_next hlt (by omega) (by omega) (by omega)).symm⟩
          case measure => simp [intOf]; omega
    · go_wp2
      have e1 := HE.out
      rw [Pl.G_end (by omega), decide_eq_false (by omega)] at e1
      rw [Pl.mlv_of e1.symm]
      go_ret2
      exact ⟨rfl, n, rfl⟩

set_option maxHeartbeats 400000 in
theorem multi39_any (s : ByteArray) (i : Nat) (w : World) (hs : s.size ≤ 1048576) (hi : (i : Int) ≤ 9223372036854775807) :
    Calls Try.prog 25 #[.string s, .int .i64 i, .string ⟨#[39, 39, 39]⟩] w fun e w' => e = .returned (Pl.mlv s 39 i) ∧ ∃ n, w' = w.drewN n := by
  go_enter Try.func25, Try.ntmps25
  go_wp2
  go_loopw [8] (fun j wr => ∃ k n : Nat, (k : Int) ≤ 9223372036854775807 ∧ j = .int .i64 k ∧ wr = w.drewN n ∧ Pl.G s 39 0 k = Pl.G s 39 0 i) (fun j _ => s.size + 1 - (intOf j).toNat)
  case atStart => exact ⟨i, 0, by omega, rfl, rfl, rfl⟩
  case round =>
    obtain ⟨k, n, hk, rfl, rfl, hE⟩ := hrel
    have HE : Hid (Pl.G s 39 0 k = Pl.G s 39 0 i) := hE
    clear hE
    by_cases hlt : k < s.size
    · have HK : Hid (Pl.bt s k = s[k].toNat) := Pl.bt_lt hlt
      go_wp2
      go_quiet (fail)
      go_wp2
      · have hqq : (s[k].toNat : Int) = 39 := beq_iff_eq.1 (show ((s[k].toNat : Int) == ((⟨#[39, 39, 39]⟩ : ByteArray)[0].toNat : Int)) = true by assumption)
        go_loopw [9] (fun r wr => ∃ e m : Nat, k ≤ e ∧ e ≤ s.size ∧ r = .int .i64 e ∧ wr = w.drewN m ∧ Pl.G s 39 (e - k) e = Pl.G s 39 0 k) (fun r _ => s.size - (intOf r).toNat)
        case atStart => exact ⟨k, n + nq, by omega, by omega, rfl, by simp, by simp⟩
        case round =>
          obtain ⟨e, m, hke, hes, rfl, rfl, hG⟩ := hrel
          have HG : Hid (Pl.G s 39 (e - k) e = Pl.G s 39 0 k) := hG
          clear hG
          by_cases hel : e < s.size
          · have HB : Hid (Pl.bt s e = s[e].toNat) := Pl.bt_lt hel
            have hel2 : (e : Int) < (s.size : Int) := by omega
            go_wp2
            go_quiet (fail)
            go_wp2
            · have hqe : (s[e].toNat : Int) = 39 := beq_iff_eq.1 (show ((s[e].toNat : Int) == ((⟨#[39, 39, 39]⟩ : ByteArray)[0].toNat : Int)) = true by assumption)
              have hb := HB.out
              go_roundw
              case rel => exact ⟨e + 1, m + nq, by omega, by omega, by go_num, by simp, by rw [← HG.out, show e + 1 - k = e - k + 1 by omega]; exact (Pl.G_q hel (by omega)).symm⟩
              case measure => simp [intOf]; omega
            · have hqe : ¬ (s[e].toNat : Int) = 39 := beq_eq_false_iff_ne.1 (show ((s[e].toNat : Int) == ((⟨#[39, 39, 39]⟩ : ByteArray)[0].toNat : Int)) = false by assumption)
              have hb := HB.out
              have h3 : (3 : Int) ≤ (e : Int) - (k : Int) := by assumption
              have e1 : Pl.G s 39 0 i = (e, true) := by rw [← HE.out, ← HG.out]; exact Pl.G_run (by omega) (fun _ => by omega) (by omega)
              rw [Pl.mlv_of e1]
              go_ret2
              exact ⟨rfl, m + nq, by simp⟩
            · have hqe : ¬ (s[e].toNat : Int) = 39 := beq_eq_false_iff_ne.1 (show ((s[e].toNat : Int) == ((⟨#[39, 39, 39]⟩ : ByteArray)[0].toNat : Int)) = false by assumption)
              have hb := HB.out
              have hc := HK.out
              have h3 : (e : Int) - (k : Int) < 3 := by assumption
              have hne : e ≠ k := by intro h; subst h; omega
              go_roundw
              case rel => exact ⟨e, m + nq, by omega, rfl, by simp, by rw [← HE.out, ← HG.out]; exact (Pl.G_forget (fun _ => by omega) (by omega)).symm⟩
              case measure => simp [intOf]; omega
          · have hd : decide ((e : Int) < (s.size : Int)) = false := decide_eq_false (by omega)
            go_wp2
            go_quiet (fail)
            go_wp2
            · have h3 : (3 : Int) ≤ (e : Int) - (k : Int) := by assumption
              have e1 : Pl.G s 39 0 i = (e, true) := by rw [← HE.out, ← HG.out]; exact Pl.G_run (by omega) (fun _ => by omega) (by omega)
              rw [Pl.mlv_of e1]
              go_ret2
              exact ⟨rfl, m + nq, by simp⟩
            · have h3 : (e : Int) - (k : Int) < 3 := by assumption
              go_roundw
              case rel => exact ⟨e, m + nq, by omega, rfl, by simp, by rw [← HE.out, ← HG.out]; exact (Pl.G_forget (fun _ => by omega) (by omega)).symm⟩
              case measure => simp [intOf]; omega
      · have hqq : ¬ (s[k].toNat : Int) = 39 := beq_eq_false_iff_ne.1 (show ((s[k].toNat : Int) == ((⟨#[39, 39, 39]⟩ : ByteArray)[0].toNat : Int)) = false by assumption)
        have hc := HK.out
        go_roundw
        case rel => exact ⟨k + 1, n + nq, by omega, by go_num, by simp, by rw [← HE.out]; exact (Pl.G_next hlt (by omega) (by omega) (by omega)).symm⟩
        case measure => simp [intOf]; omega
    · go_wp2
      have e1 := HE.out
      rw [Pl.G_end (by omega), decide_eq_false (by omega)] at e1
      rw [Pl.mlv_of e1.symm]
      go_ret2
      exact ⟨rfl, n, rfl⟩

/-- Both kinds in one, the closing quotes kept a variable. -/
theorem multi_any (s : ByteArray) (i : Nat) (c : ByteArray) (q : Nat) (w : World) (hs : s.size ≤ 1048576) (hi : (i : Int) ≤ 9223372036854775807) (hq : q = 34 ∨ q = 39) (hc : Hid (c = Pl.clo q false)) :
    Calls Try.prog 25 #[.string s, .int .i64 i, .string c] w fun e w' => e = .returned (Pl.mlv s q i) ∧ ∃ n, w' = w.drewN n := by
  have hc := hc.out
  rcases hq with rfl | rfl
  · obtain rfl : c = ⟨#[34, 34, 34]⟩ := hc
    exact multi34_any s i w hs hi
  · obtain rfl : c = ⟨#[39, 39, 39]⟩ := hc
    exact multi39_any s i w hs hi
end Go.Proofs.Qxb6601764a
