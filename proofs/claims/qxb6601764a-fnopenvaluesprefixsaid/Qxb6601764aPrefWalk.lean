/-
  THE WALK OF FnOpenValuesPrefix (4).
-/
import Derived.Test.Qxb6601764aValues
namespace Go.Proofs.Qxb6601764a.fnOpenValuesPrefix
open Go.ChangeShapes Go.WideShapes Go.ChangeAt Go.RowKit

theorem outs_take {ss : List ByteArray} {k j : Nat} (hk : k ≤ ss.length) (hj : j < k) : ∃ b, (Pl.outs (ss.take k))[j]? = some b ∧ (Pl.outs ss)[j]? = some b := by
  refine ⟨Pl.isOpen (Pl.stt ss (j + 1)), ?_, Pl.outs_get (by omega)⟩
  rw [Pl.outs_get (by rw [List.length_take]; omega)]
  have : Pl.stt (ss.take k) (j + 1) = Pl.stt ss (j + 1) := by
    unfold Pl.stt
    rw [List.take_take, Nat.min_eq_left (by omega)]
  rw [this]
theorem tot_take {ss : List ByteArray} {k : Nat} (hk : k ≤ ss.length) (h : Pl.tot ss ss.length ≤ 1048576) : Pl.tot (ss.take k) (ss.take k).length ≤ 1048576 := by
  have e : Pl.tot (ss.take k) (ss.take k).length = Pl.tot ss k := by
    unfold Pl.tot
    rw [List.take_length]
  rw [e]
  exact Nat.le_trans (Pl.tot_le ss k ss.length hk) h

/-- Behind the copy: two calls of openValues, then the comparison. -/
theorem walk_some (a : Addr) (n c : Nat) (ss : List ByteArray) (k : Nat) (w : World) (hn : Hid (n = ss.length)) (hrow : Hid (SRow w (some a) ss)) (hk : k ≤ n) :
    Calls Try.prog 4 #[.slice (some a) n c, .int .i64 k] w fun e w' => e = .returned (.bool true) ∧ Below w.heap.size w w' := by
  have K1 := bytes14_any ss (some a) c k w hrow.out
  rw [← hn.out] at K1
  go_enter Try.func4, Try.ntmps4
  go_wp2_with fail
  refine K1.mono ?_
  rintro e w' ⟨r, rfl, rfl, hr⟩
  clear K1
  cases r
  · go_wp2
    go_ret
    exact ⟨rfl, Below.refl _ _⟩
  have hr1 := hr rfl
  clear hr
  have K2 := small_any ss (some a) c w' hrow.out (by rw [← hn.out]; exact hr1.1) (fun j h => by
    have h1 := Pl.tot_succ h
    have h2 := Pl.tot_le ss (j + 1) ss.length h
    rw [← hn.out] at h2
    omega)
  rw [← hn.out] at K2
  clear hr1
  go_wp2_with fail
  refine K2.mono ?_
  rintro e w'' ⟨r, rfl, rfl, hr⟩
  clear K2
  cases r
  · go_wp2
    go_ret
    exact ⟨rfl, Below.refl _ _⟩
  obtain ⟨hn1, ht1⟩ := hr rfl
  have HT1 : Hid (Pl.tot ss ss.length ≤ 1048576) := by rw [← hn.out]; exact ht1
  clear hr ht1
  have K3 := copy_some ss a c w'' hrow.out (by rw [← hn.out]; exact hn1)
  rw [← hn.out] at K3
  go_wp2_with fail
  refine K3.mono ?_
  rintro e w1 ⟨rfl, hown1, hbel1⟩
  clear K3
  have hs1 : Strs w1 w''.heap.size ss := strs_of (by rw [← hn.out]; exact hown1)
  have HS1 : Hid (Strs w1 w''.heap.size ss) := hs1
  have HB1 : Hid (Below w''.heap.size w'' w1) := hbel1
  clear hs1 hown1 hbel1
  have K4 := zzOpen_any ss (some ⟨w''.heap.size, 0, none⟩) n n w1 hn HS1.out.row (by omega) HT1
  go_wp2_with fail
  refine K4.mono ?_
  rintro e w2 ⟨rfl, hbit2, hbel2⟩
  clear K4
  have hg1 : w''.heap.size < w1.heap.size := HS1.out.1
  have HS2 : Hid (Strs w2 w''.heap.size ss) := HS1.out.later hbel2 hg1
  have HB2 : Hid (Below w1.heap.size w1 w2) := hbel2
  have HBI2 : Hid (Bits w2 w1.heap.size (Pl.outs ss)) := hbit2
  clear hbit2 hbel2
  have K5 := zzOpen_any (ss.take k) (some ⟨w''.heap.size, 0, none⟩) k n w2 (show k = (ss.take k).length by rw [List.length_take, ← hn.out]; omega) (HS2.out.take k).row (by omega) (tot_take (by rw [← hn.out]; exact hk) HT1.out)
  go_wp2_with fail
  refine K5.mono ?_
  rintro e w3 ⟨rfl, hbit3, hbel3⟩
  clear K5
  have hg2 : w1.heap.size < w2.heap.size := HBI2.out.1
  have HC : Hid (∀ j, j < k → ∃ b, w3.cell? ⟨w2.heap.size, j, none⟩ = some (.bool b) ∧ w3.cell? ⟨w1.heap.size, j, none⟩ = some (.bool b)) := by
    intro j hj
    obtain ⟨b, h1, h2⟩ := outs_take (ss := ss) (k := k) (by rw [← hn.out]; exact hk) hj
    exact ⟨b, hbit3.2 j b h1, (HBI2.out.later hbel3 hg2).2 j b h2⟩
  have HB3 : Hid (Below w''.heap.size w'' w3) := HB1.out.trans ((HB2.out.mono (by omega)).trans (hbel3.mono (by omega)))
  clear hbit3 hbel3 HBI2 HS2 HS1 HB1 HB2
  go_wp2
  go_loopw [7] (fun jv wr => ∃ j m : Nat, j ≤ k ∧ jv = .int .i64 j ∧ wr = w3.drewN m) (fun jv _ => k - (intOf jv).toNat)
  case atStart => exact ⟨0, 0, by omega, rfl, rfl⟩
  case round =>
    obtain ⟨j, m, hj, rfl, rfl⟩ := hrel
    by_cases hlt : j < k
    · obtain ⟨b, h1, h2⟩ := HC.out j hlt
      have hj1 : (j : Int) < (k : Int) := by omega
      have hj2 : (j : Int) < (n : Int) := by omega
      go_wp2
      go_quiet (fail)
      go_wp2
      go_roundw
      case rel => exact ⟨j + 1, m + nq, by omega, by go_num, by simp⟩
      case measure => simp [intOf]; omega
    · go_wp2
      go_ret
      exact ⟨rfl, below_drewN HB3.out m⟩

theorem walk_nil (x : Int) (w : World) :
    Calls Try.prog 4 #[.slice none 0 0, .int .i64 x] w fun e w' => e = .returned (.bool true) ∧ Below w.heap.size w w' := by
  have K1 := bytes14_any [] none 0 x w (.inl rfl)
  have K2 := small_any [] none 0 w (.inl rfl) (by simp) (fun j h => by simp at h)
  have K3 := copy_nil w
  have K4 := fun wx => zzOpen_any [] none 0 0 wx rfl (.inl rfl) (by omega) (show Pl.tot [] _ ≤ _ by simp [Pl.tot])
  by_cases h0 : x = 0
  · subst h0
    go_enter Try.func4, Try.ntmps4
    go_wp2_with fail
    refine K1.mono ?_
    rintro e w' ⟨r, rfl, rfl, _⟩
    cases r
    · go_wp2
      go_ret
      exact ⟨rfl, Below.refl _ _⟩
    go_wp2_with fail
    refine K2.mono ?_
    rintro e w'' ⟨r, rfl, rfl, _⟩
    cases r
    · go_wp2
      go_ret
      exact ⟨rfl, Below.refl _ _⟩
    go_wp2_with fail
    refine K3.mono ?_
    rintro e w1 ⟨rfl, rfl⟩
    clear K1 K2 K3
    go_wp2_with fail
    refine (K4 w1).mono ?_
    rintro e w2 ⟨rfl, hbit2, hbel2⟩
    have HB2 : Hid (Below w1.heap.size w1 w2) := hbel2
    clear hbit2 hbel2
    go_wp2_with fail
    refine (K4 w2).mono ?_
    rintro e w3 ⟨rfl, hbit3, hbel3⟩
    have HB3 : Hid (Below w1.heap.size w1 w3) := HB2.out.trans (hbel3.mono HB2.out.size)
    clear hbit3 hbel3 K4
    go_wp2
    refine wp_loop_rounds 1 ?_
    rw [rounds_succ]
    go_wp2
    go_ret
    exact ⟨rfl, HB3.out⟩
  · rcases (show x < 0 ∨ 0 < x by omega) with hx | hx
    all_goals
      clear h0
      go_enter Try.func4, Try.ntmps4
      go_wp2_with fail
      refine K1.mono ?_
      rintro e w' ⟨r, rfl, rfl, _⟩
      cases r
      · go_wp2
        go_ret
        exact ⟨rfl, Below.refl _ _⟩
      go_wp2_with fail
      refine K2.mono ?_
      rintro e w'' ⟨r, rfl, rfl, _⟩
      cases r
      · go_wp2
        go_ret
        exact ⟨rfl, Below.refl _ _⟩
      clear K1 K2 K3 K4
      go_wp2
      go_ret
      exact ⟨rfl, Below.refl _ _⟩

/-- k outside the text. -/
theorem walk_out (a : Addr) (n c : Nat) (ss : List ByteArray) (x : Int) (w : World) (hn : Hid (n = ss.length)) (hrow : Hid (SRow w (some a) ss)) (hx : x < 0 ∨ (n : Int) < x) :
    Calls Try.prog 4 #[.slice (some a) n c, .int .i64 x] w fun e w' => e = .returned (.bool true) ∧ Below w.heap.size w w' := by
  have K1 := bytes14_any ss (some a) c x w hrow.out
  rw [← hn.out] at K1
  rcases hx with hx | hx
  all_goals
    go_enter Try.func4, Try.ntmps4
    go_wp2_with fail
    refine K1.mono ?_
    rintro e w' ⟨r, rfl, rfl, hr⟩
    clear K1
    cases r
    · go_wp2
      go_ret
      exact ⟨rfl, Below.refl _ _⟩
    have hr1 := hr rfl
    clear hr
    have K2 := small_any ss (some a) c w' hrow.out (by rw [← hn.out]; exact hr1.1) (fun j h => by
      have h1 := Pl.tot_succ h
      have h2 := Pl.tot_le ss (j + 1) ss.length h
      rw [← hn.out] at h2
      omega)
    rw [← hn.out] at K2
    clear hr1
    go_wp2_with fail
    refine K2.mono ?_
    rintro e w'' ⟨r, rfl, rfl, hr⟩
    clear K2 hr
    cases r
    · go_wp2
      go_ret
      exact ⟨rfl, Below.refl _ _⟩
    go_wp2
    go_ret
    exact ⟨rfl, Below.refl _ _⟩

theorem walk (a : Option Addr) (n c : Nat) (ss : List ByteArray) (x : Int) (w : World) (hnil : a = none → n = 0 ∧ c = 0) (hn : n = ss.length) (hrow : SRow w a ss) :
    Calls Try.prog 4 #[.slice a n c, .int .i64 x] w fun e w' => e = .returned (.bool true) ∧ Below w.heap.size w w' := by
  cases a with
  | none =>
    obtain ⟨rfl, rfl⟩ := hnil rfl
    exact walk_nil x w
  | some a =>
    by_cases hx : x < 0 ∨ (n : Int) < x
    · exact walk_out a n c ss x w hn hrow hx
    · obtain ⟨k, rfl⟩ := Int.eq_ofNat_of_zero_le (by omega : 0 ≤ x)
      exact walk_some a n c ss k w hn hrow (by omega)
end Go.Proofs.Qxb6601764a.fnOpenValuesPrefix
