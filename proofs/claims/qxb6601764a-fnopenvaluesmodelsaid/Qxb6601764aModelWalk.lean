/-
  THE WALK OF FnOpenValuesModel (3).
-/
import Derived.Test.Qxb6601764aModel
namespace Go.Proofs.Qxb6601764a.fnOpenValuesModel
open Go.ChangeShapes Go.WideShapes Go.ChangeAt Go.RowKit

theorem modelOpen_nil (a : Option Addr) (c : Nat) (w : World) :
    Calls Try.prog 13 #[.slice a 0 c] w fun e w' => e = .returned (.slice (some ⟨w.heap.size, 0, none⟩) 0 0) ∧ w.heap.size < w'.heap.size ∧ Below w.heap.size w w' := by
  obtain ⟨i4, hi4, hz0, hz1, hz2⟩ := info_parts Try.info4
  go_enter Try.func13, Try.ntmps13
  go_wp2_with (first
    | (at_make; refine wpList_make_full _ rfl _ _ 25 rfl w.heap.size 4 i4 (.bool false) 1 Try.underlying25 hi4 hz0 hz1 _ _ _ _ 0 rfl rfl rfl rfl (by rw [hz2]; omega) (by unfold maxLen; omega) (Nat.le_refl _) ?_; intro w1 hown hgrow)
    | go_in)
  have HB1 : Hid (w.heap.size < w1.heap.size ∧ Below w.heap.size w w1) := ⟨owns_lt hown, (Below.refl _ _).grown hgrow (Nat.le_refl _) (fun k hk => by cases hk)⟩
  clear hown hgrow hi4 hz0 hz1 hz2
  refine wp_loop_rounds 1 ?_
  rw [rounds_succ]
  go_wp2
  go_ret
  exact ⟨rfl, HB1.out⟩

theorem modelOpen_any (ss : List ByteArray) (a : Option Addr) (n c : Nat) (w : World) (hnl : Hid (n = ss.length)) (hrow : Hid (SRow w a ss)) (hn : n ≤ 65536) (ht : Hid (Pl.tot ss ss.length ≤ 1048576)) :
    Calls Try.prog 13 #[.slice a n c] w fun e w' => e = .returned (.slice (some ⟨w.heap.size, 0, none⟩) n n) ∧ Bits w' w.heap.size (Pl.outs ss) ∧ Below w.heap.size w w' := by
  rw [hnl.out] at hn ⊢
  rcases hrow.out with rfl | ⟨b, off, rfl, hb, hc⟩
  · refine (modelOpen_nil a c w).mono fun e w' ⟨he, hlt, hbel⟩ => ⟨he, ⟨hlt, fun j b hj => ?_⟩, hbel⟩
    simp [Pl.outs] at hj
  · refine (modelOpen_some ss b off c w hb hn ht.out hc).mono fun e w' ⟨he, hown, hbel⟩ => ⟨he, ?_, hbel⟩
    have hl := Pl.outs_length ss
    exact bits_of (by rw [hl]; exact hown)

/-- copyText over whatever slice. -/
theorem copy_any (ss : List ByteArray) (a : Option Addr) (n c : Nat) (w : World) (hnil : a = none → n = 0 ∧ c = 0) (hnl : n = ss.length) (hrow : SRow w a ss) (hn : n ≤ 65536) :
    Calls Try.prog 11 #[.slice a n c] w fun e w' => ∃ a' c', e = .returned (.slice a' n c') ∧ SRow w' a' ss ∧ (∀ w'', Below w'.heap.size w' w'' → SRow w'' a' ss) ∧ Below w.heap.size w w' := by
  have later : ∀ w' a', SRow w' a' ss → ∀ w'', Below w'.heap.size w' w'' → SRow w'' a' ss := by
    intro w' a' h w'' hb
    rcases h with h | ⟨b, off, ha, hlt, hc⟩
    · exact .inl h
    · exact .inr ⟨b, off, ha, Nat.lt_of_lt_of_le hlt hb.size, fun j hj => by rw [hb.cell (by exact hlt)]; exact hc j hj⟩
  cases a with
  | none =>
    obtain ⟨rfl, rfl⟩ := hnil rfl
    have h0 : ss = [] := List.eq_nil_of_length_eq_zero hnl.symm
    exact (copy_nil w).mono fun e w' ⟨he, hw⟩ => ⟨none, 0, he, .inl h0, later _ _ (.inl h0), by rw [hw]; exact Below.refl _ _⟩
  | some a =>
    rw [hnl] at hn ⊢
    exact (copy_some ss a c w hrow hn).mono fun e w' ⟨he, hown, hb⟩ => ⟨_, _, he, (strs_of hown).row, later _ _ (strs_of hown).row, hb⟩

theorem walk (a : Option Addr) (n c : Nat) (ss : List ByteArray) (w : World) (hnil0 : a = none → n = 0 ∧ c = 0) (hn0 : n = ss.length) (hrow0 : SRow w a ss) :
    Calls Try.prog 3 #[.slice a n c] w fun e w' => e = .returned (.bool true) ∧ Below w.heap.size w w' := by
  have hn : Hid (n = ss.length) := hn0
  have hrow : Hid (SRow w a ss) := hrow0
  have hnil : Hid (a = none → n = 0 ∧ c = 0) := hnil0
  clear hn0 hrow0 hnil0
  have K1 := bytes9_any ss a c w hrow.out
  rw [← hn.out] at K1
  go_enter Try.func3, Try.ntmps3
  go_wp2_with fail
  refine K1.mono ?_
  rintro e w' ⟨r, rfl, rfl, hr⟩
  clear K1
  cases r
  · go_wp2
    go_ret
    exact ⟨rfl, Below.refl _ _⟩
  have hr1 := hr rfl
  clear hr
  have K2 := small_any ss a c w' hrow.out (by rw [← hn.out]; exact hr1.1) (fun j h => by
    have h1 := Pl.tot_succ h
    have h2 := Pl.tot_le ss (j + 1) ss.length h
    rw [← hn.out] at h2
    omega)
  rw [← hn.out] at K2
  clear hr1
  go_wp2_with fail
  refine K2.mono ?_
  rintro e w0 ⟨r, rfl, rfl, hr⟩
  clear K2
  cases r
  · go_wp2
    go_ret
    exact ⟨rfl, Below.refl _ _⟩
  obtain ⟨hn1, ht1⟩ := hr rfl
  have HT1 : Hid (Pl.tot ss ss.length ≤ 1048576) := by rw [← hn.out]; exact ht1
  clear hr ht1
  have K3 := copy_any ss a n c w0 hnil.out hn.out hrow.out hn1
  go_wp2_with fail
  refine K3.mono ?_
  rintro e w1 ⟨a', c', rfl, hs1, hs1', hbel1⟩
  clear K3
  have HS1 : Hid (SRow w1 a' ss) := hs1
  have HL : Hid (∀ w'', Below w1.heap.size w1 w'' → SRow w'' a' ss) := hs1'
  have HB1 : Hid (Below w0.heap.size w0 w1) := hbel1
  clear hs1 hs1' hbel1
  have K4 := zzOpen_any ss a' n c' w1 hn HS1 (by omega) HT1
  go_wp2_with fail
  refine K4.mono ?_
  rintro e w2 ⟨rfl, hbit2, hbel2⟩
  clear K4
  have HS2 : Hid (SRow w2 a' ss) := HL.out w2 hbel2
  have HB2 : Hid (Below w0.heap.size w0 w2) := HB1.out.trans (hbel2.mono HB1.out.size)
  have HBI2 : Hid (Bits w2 w1.heap.size (Pl.outs ss)) := hbit2
  have hg2 : w1.heap.size < w2.heap.size := hbit2.1
  clear hbit2 hbel2 HL HS1 HB1
  have K5 := modelOpen_any ss a' n c' w2 hn HS2 hn1 HT1
  go_wp2_with fail
  refine K5.mono ?_
  rintro e w3 ⟨rfl, hbit3, hbel3⟩
  clear K5
  have HC : Hid (∀ j, j < n → ∃ b, w3.cell? ⟨w1.heap.size, j, none⟩ = some (.bool b) ∧ w3.cell? ⟨w2.heap.size, j, none⟩ = some (.bool b)) := by
    intro j hj
    have e := Pl.outs_get (ss := ss) (j := j) (by rw [← hn.out]; exact hj)
    exact ⟨_, (HBI2.out.later hbel3 hg2).2 _ _ e, hbit3.2 _ _ e⟩
  have HB3 : Hid (Below w0.heap.size w0 w3) := HB2.out.trans (hbel3.mono HB2.out.size)
  clear hbit3 hbel3 HBI2 HS2 HB2
  go_wp2
  go_loopw [5] (fun jv wr => ∃ j m : Nat, j ≤ n ∧ jv = .int .i64 j ∧ wr = w3.drewN m) (fun jv _ => n - (intOf jv).toNat)
  case atStart => exact ⟨0, 0, by omega, rfl, rfl⟩
  case round =>
    obtain ⟨j, m, hj, rfl, rfl⟩ := hrel
    by_cases hlt : j < n
    · obtain ⟨b, h1, h2⟩ := HC.out j hlt
      have hj2 : (j : Int) < (n : Int) := by omega
      go_wp2
      go_quiet (fail)
      go_wp2
      go_roundw
      case rel => exact ⟨j + 1, m + nq, by omega, by go_num, by simp⟩
      case measure => simp [intOf]; omega
    · go_wp2
      go_ret
      exact ⟨rfl, below_drewN HB3.out m⟩
end Go.Proofs.Qxb6601764a.fnOpenValuesModel
