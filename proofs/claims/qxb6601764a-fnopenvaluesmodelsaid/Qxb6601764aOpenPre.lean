/-
  AHEAD OF THE WALK OF openValues: strings.HasPrefix by its contract; the slice of answers.
-/
import Derived.Test.Qxb6601764aMulti
import Derived.Test.Qxb6601764aTri
import Derived.Below
import Derived.WalkSmall
namespace Go.Proofs.Qxb6601764a
open Go.ChangeShapes Go.WideShapes Go.ChangeAt Go.RowKit

set_option maxHeartbeats 400000 in
theorem hasPrefix_any (t p : ByteArray) (w : World) (_ht : t.size ≤ 1048576) (_hp : p.size ≤ 1048576) :
    Calls Try.prog 26 #[.string t, .string p] w fun e w' => e = .returned (.bool (Pl.hp t p)) ∧ w' = w := by
  by_cases h : p.size ≤ t.size
  · have e : Pl.hp t p = ((t.extract 0 p.size).toList == p.toList) := by simp [Pl.hp, h]
    rw [e]
    clear e
    go_enter Try.func26, Try.ntmps26
    go_wp2
    go_ret
    exact ⟨rfl, rfl⟩
  · have e : Pl.hp t p = false := by simp [Pl.hp, h]
    rw [e]
    clear e
    go_enter Try.func26, Try.ntmps26
    go_wp2
    go_ret
    exact ⟨rfl, rfl⟩

theorem hp34_yes (s : ByteArray) (k : Nat) (w : World) (hs : s.size ≤ 1048576) (h : Hid (Pl.tri s k 34)) :
    Calls Try.prog 26 #[.string (s.extract k s.size), .string ⟨#[34, 34, 34]⟩] w fun e w' => e = .returned (.bool true) ∧ w' = w := by
  have := hasPrefix_any (s.extract k s.size) (Pl.q3 34) w (by rw [ByteArray.size_extract]; omega) (by show 3 ≤ 1048576; omega)
  rw [Pl.hp_yes (u := 34) h.out] at this
  exact this
theorem hp34_no (s : ByteArray) (k : Nat) (w : World) (hs : s.size ≤ 1048576) (h : Hid (¬ Pl.tri s k 34)) :
    Calls Try.prog 26 #[.string (s.extract k s.size), .string ⟨#[34, 34, 34]⟩] w fun e w' => e = .returned (.bool false) ∧ w' = w := by
  have := hasPrefix_any (s.extract k s.size) (Pl.q3 34) w (by rw [ByteArray.size_extract]; omega) (by show 3 ≤ 1048576; omega)
  rw [Pl.hp_no (u := 34) h.out] at this
  exact this
theorem hp39_yes (s : ByteArray) (k : Nat) (w : World) (hs : s.size ≤ 1048576) (h : Hid (Pl.tri s k 39)) :
    Calls Try.prog 26 #[.string (s.extract k s.size), .string ⟨#[39, 39, 39]⟩] w fun e w' => e = .returned (.bool true) ∧ w' = w := by
  have := hasPrefix_any (s.extract k s.size) (Pl.q3 39) w (by rw [ByteArray.size_extract]; omega) (by show 3 ≤ 1048576; omega)
  rw [Pl.hp_yes (u := 39) h.out] at this
  exact this
theorem hp39_no (s : ByteArray) (k : Nat) (w : World) (hs : s.size ≤ 1048576) (h : Hid (¬ Pl.tri s k 39)) :
    Calls Try.prog 26 #[.string (s.extract k s.size), .string ⟨#[39, 39, 39]⟩] w fun e w' => e = .returned (.bool false) ∧ w' = w := by
  have := hasPrefix_any (s.extract k s.size) (Pl.q3 39) w (by rw [ByteArray.size_extract]; omega) (by show 3 ≤ 1048576; omega)
  rw [Pl.hp_no (u := 39) h.out] at this
  exact this

/-- The closing quotes c of the multi-line string with the quote q (0: none is open). -/
def Cl (q : Nat) (c : ByteArray) : Prop := (q = 0 ∧ c = ⟨#[]⟩) ∨ ((q = 34 ∨ q = 39) ∧ c = Pl.clo q false)

/-- What openValues's slice of answers holds behind the first i lines. -/
def mid (os : List Bool) (n i : Nat) : List Value := (os.take i).map Value.bool ++ List.replicate (n - i) (Value.bool false)
theorem mid_zero (os : List Bool) (n : Nat) : mid os n 0 = List.replicate n (.bool false) := by simp [mid]
theorem mid_all (os : List Bool) : mid os os.length os.length = os.map Value.bool := by simp [mid]
theorem mid_length (os : List Bool) (n i : Nat) (h : os.length = n) (hi : i ≤ n) : (mid os n i).length = n := by simp [mid]; omega
theorem mid_set (os : List Bool) (n i : Nat) (b : Bool) (h : os.length = n) (hi : i < n) (hb : os[i]? = some b) : (mid os n i).set i (.bool b) = mid os n (i + 1) := by
  have hi' : i < os.length := by omega
  have hl : ((os.take i).map Value.bool).length = i := by simp; omega
  unfold mid
  rw [List.set_append_right _ _ (by omega), hl, Nat.sub_self]
  obtain ⟨m, hm⟩ : ∃ m, n - i = m + 1 := ⟨n - i - 1, by omega⟩
  rw [hm, List.replicate_succ, List.set_cons_zero, List.take_succ_eq_append_getElem hi', List.map_append, show n - (i + 1) = m by omega]
  have e : os[i] = b := by rw [List.getElem?_eq_getElem hi'] at hb; simpa using hb
  simp [e]
end Go.Proofs.Qxb6601764a
