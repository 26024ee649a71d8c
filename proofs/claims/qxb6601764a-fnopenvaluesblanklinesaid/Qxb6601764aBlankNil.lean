/-
  FnOpenValuesBlankLine (5): the nil text; k outside the text; all of it.
-/
import Derived.Test.Qxb6601764aBlankWalk
namespace Go.Proofs.Qxb6601764a.fnOpenValuesBlankLine
open Go.ChangeShapes Go.WideShapes Go.ChangeAt Go.RowKit

set_option maxHeartbeats 1000000 in
set_option maxRecDepth 100000 in
theorem walk_nil0 (w : World) :
    Calls Try.prog 5 #[.slice none 0 0, .int .i64 0] w fun e w' => e = .returned (.bool true) ∧ Below w.heap.size w w' := by
  have K1 := bytes15_any [] none 0 0 w (.inl rfl)
  have K2 := small_any [] none 0 w (.inl rfl) (by simp) (fun j h => by simp at h)
  have K3 := copy_nil w
  have K4 := fun wx => zzOpen_any [] none 0 0 wx rfl (.inl rfl) (by omega) (show Pl.tot [] _ ≤ _ by simp [Pl.tot])
  go_enter Try.func5, Try.ntmps5
  go_wp2_with fail
  refine K1.mono ?_
  rintro e w' ⟨r, rfl, rfl, _⟩
  cases r
  · go_wp2
    go_ret
    exact ⟨rfl, Below.refl _ _⟩
  go_wp2_with fail
  refine K2.mono ?_
  rintro e w'' ⟨r, rfl, rfl, _⟩
  cases r
  · go_wp2
    go_ret
    exact ⟨rfl, Below.refl _ _⟩
  go_wp2_with fail
  refine K3.mono ?_
  rintro e w1 ⟨rfl, rfl⟩
  clear K1 K2 K3
  have HLI : Hid ((Pl.ins [] 0).length = 1) := rfl
  obtain ⟨i9, hi9, hz0, hz1, hz2⟩ := info_parts Try.info9
  go_wp2_with (first
    | (at_make; refine wpList_make_full _ rfl _ _ 22 rfl w1.heap.size 9 i9 (.string ⟨#[]⟩) 1 Try.underlying22 hi9 hz0 hz1 _ _ _ _ 1 rfl rfl (by omega) (by omega) (by rw [hz2]; omega) (by unfold maxLen; omega) (Nat.le_refl _) ?_; intro w2 hown hgrow))
  have hown0 : w2.ownsRow w1.heap.size 9 1 (.slice (some ⟨w1.heap.size, 0, none⟩) 1 1) 1 (midS (Pl.ins [] 0) 1 0) := by
    rw [midS_zero, ← toList_madeCells_one]
    have h := hown
    simp only [Value.cells, Nat.mul_one] at h
    exact h
  have hbel0 : Below w1.heap.size w1 w2 := (Below.refl _ _).grown hgrow (Nat.le_refl _) (fun k hk => by cases hk)
  obtain ⟨⟨v, hsc⟩, hsf⟩ := cell_put hown0 HLI.out (by omega)
  have HP : Hid _ := put hown0 hbel0 HLI.out (by omega) (Pl.ins_at (ss := []) (k := 0) (by simp))
  clear hown hgrow hi9 hz0 hz1 hz2 hown0 hbel0
  refine wp_loop_rounds 1 ?_
  rw [rounds_succ]
  go_wp2
  refine wp_loop_rounds 1 ?_
  rw [rounds_succ]
  go_wp2_with fail
  generalize w2.setCell ⟨w1.heap.size, 0, none⟩ (.string ⟨#[]⟩) = w3 at HP ⊢
  have hs3 : Strs w3 w1.heap.size (Pl.ins [] 0) := strs_of HP.out.1
  have HS3 : Hid (Strs w3 w1.heap.size (Pl.ins [] 0)) := hs3
  have HB3 : Hid (Below w1.heap.size w1 w3) := HP.out.2
  have hg3 : w1.heap.size < w3.heap.size := hs3.1
  clear HP hs3 hsc hsf
  refine (K4 w3).mono ?_
  rintro e w4 ⟨rfl, hbit4, hbel4⟩
  have HS4 : Hid (Strs w4 w1.heap.size (Pl.ins [] 0)) := HS3.out.later hbel4 hg3
  have HBI4 : Hid (Bits w4 w3.heap.size (Pl.outs [])) := hbit4
  have HB4 : Hid (Below w1.heap.size w1 w4) := HB3.out.trans (hbel4.mono (by omega))
  have hg4 : w3.heap.size < w4.heap.size := hbit4.1
  clear hbit4 hbel4 K4
  have K5 := zzOpen_any (Pl.ins [] 0) (some ⟨w1.heap.size, 0, none⟩) 1 1 w4 rfl HS4.out.row (by omega) (show Pl.tot _ _ ≤ _ by rw [Pl.ins_tot]; simp [Pl.tot])
  go_wp2_with fail
  refine K5.mono ?_
  rintro e w5 ⟨rfl, hbit5, hbel5⟩
  clear K5
  have HA : Hid (Ans w5 w3.heap.size w4.heap.size 0 0) := ans_of (ss := []) (by simp) (HBI4.out.later hbel5 hg4) hbit5
  have HB5 : Hid (Below w1.heap.size w1 w5) := HB4.out.trans (hbel5.mono (by omega))
  clear hbit5 hbel5 HBI4 HB4 HS4 HS3 HB3
  have h1 := HA.out.at0 rfl
  go_wp2
  refine wp_loop_rounds 1 ?_
  rw [rounds_succ]
  go_wp2
  refine wp_loop_rounds 1 ?_
  rw [rounds_succ]
  go_wp2
  go_ret
  exact ⟨rfl, HB5.out⟩

/-- k outside the text. -/
theorem walk_out (a : Option Addr) (n c : Nat) (ss : List ByteArray) (x : Int) (w : World) (hn : Hid (n = ss.length)) (hrow : Hid (SRow w a ss)) (hx : x < 0 ∨ (n : Int) < x) :
    Calls Try.prog 5 #[.slice a n c, .int .i64 x] w fun e w' => e = .returned (.bool true) ∧ Below w.heap.size w w' := by
  have K1 := bytes15_any ss a c x w hrow.out
  rw [← hn.out] at K1
  rcases hx with hx | hx
  all_goals
    go_enter Try.func5, Try.ntmps5
    go_wp2_with fail
    refine K1.mono ?_
    rintro e w' ⟨r, rfl, rfl, hr⟩
    clear K1
    cases r
    · go_wp2
      go_ret
      exact ⟨rfl, Below.refl _ _⟩
    have hr1 := hr rfl
    clear hr
    have K2 := small_any ss a c w' hrow.out (by rw [← hn.out]; exact hr1.1) (fun j h => by
      have h1 := Pl.tot_succ h
      have h2 := Pl.tot_le ss (j + 1) ss.length h
      rw [← hn.out] at h2
      omega)
    rw [← hn.out] at K2
    clear hr1
    go_wp2_with fail
    refine K2.mono ?_
    rintro e w'' ⟨r, rfl, rfl, hr⟩
    clear K2 hr
    cases r
    · go_wp2
      go_ret
      exact ⟨rfl, Below.refl _ _⟩
    go_wp2
    go_ret
    exact ⟨rfl, Below.refl _ _⟩

theorem walk (a : Option Addr) (n c : Nat) (ss : List ByteArray) (x : Int) (w : World) (hnil : a = none → n = 0 ∧ c = 0) (hn : n = ss.length) (hrow : SRow w a ss) :
    Calls Try.prog 5 #[.slice a n c, .int .i64 x] w fun e w' => e = .returned (.bool true) ∧ Below w.heap.size w w' := by
  by_cases hx : x < 0 ∨ (n : Int) < x
  · exact walk_out a n c ss x w hn hrow hx
  · cases a with
    | none =>
      obtain ⟨rfl, rfl⟩ := hnil rfl
      obtain rfl : x = 0 := by omega
      exact walk_nil0 w
    | some a =>
      obtain ⟨k, rfl⟩ := Int.eq_ofNat_of_zero_le (by omega : 0 ≤ x)
      exact walk_some a n c ss k w hn hrow (by omega)
end Go.Proofs.Qxb6601764a.fnOpenValuesBlankLine
