/-
  THREE QUOTES AT k: what strings.HasPrefix's answer and the cut line[k:k+3] come to. No Go in sight.
-/
import Derived.Test.Qxb6601764aScan
import Derived.Laws.Strings
namespace Go.Proofs.Qxb6601764a.Pl

def hp (t p : ByteArray) : Bool := decide (p.size ≤ t.size) && ((t.extract 0 p.size).toList == p.toList)
def tri (s : ByteArray) (k q : Nat) : Prop := k + 2 < s.size ∧ bt s k = q ∧ bt s (k + 1) = q ∧ bt s (k + 2) = q

theorem toList_data (s : ByteArray) : s.toList = s.data.toList := ByteArray.toList_eq s
theorem drop_data {s : ByteArray} {k : Nat} (h : k < s.size) : s.data.toList.drop k = s[k] :: s.data.toList.drop (k + 1) := by
  have h' : k < s.data.toList.length := by simpa using h
  rw [List.drop_eq_getElem_cons h']
  rfl
theorem cut_three {s : ByteArray} {k : Nat} (h : k + 2 < s.size) : (s.extract k (k + 3)).data.toList = [s[k], s[k + 1], s[k + 2]] := by
  have e : (s.extract k (k + 3)).data.toList = (s.data.toList.drop k).take 3 := by
    rw [ByteArray.data_extract, Array.toList_extract]
    simp
  rw [e, drop_data (by omega : k < s.size), drop_data (by omega : k + 1 < s.size), drop_data (by omega : k + 1 + 1 < s.size)]
  rfl
theorem cut_again (s : ByteArray) (k : Nat) : (s.extract k s.size).extract 0 3 = s.extract k (k + 3) := by
  apply ByteArray.ext
  rw [ByteArray.data_extract, ByteArray.data_extract, ByteArray.data_extract]
  apply Array.toList_inj.1
  rw [Array.toList_extract, Array.toList_extract, Array.toList_extract]
  have : s.size = s.data.toList.length := by simp
  simp [List.extract, List.take_take]
theorem u8_eq {a b : UInt8} (h : a.toNat = b.toNat) : a = b := UInt8.toNat_inj.1 h
/-- The closing quotes as bytes. -/
def q3 (u : UInt8) : ByteArray := ⟨#[u, u, u]⟩
theorem q3_cut {s : ByteArray} {k : Nat} {u : UInt8} (h : tri s k u.toNat) : s.extract k (k + 3) = q3 u := by
  obtain ⟨h0, h1, h2, h3⟩ := h
  apply ByteArray.ext
  apply Array.toList_inj.1
  rw [cut_three h0]
  rw [bt_lt (by omega)] at h1 h2 h3
  show _ = [u, u, u]
  rw [u8_eq h1, u8_eq h2, u8_eq h3]
theorem hp_yes {s : ByteArray} {k : Nat} {u : UInt8} (h : tri s k u.toNat) : hp (s.extract k s.size) (q3 u) = true := by
  have h0 := h.1
  unfold hp
  have e3 : (q3 u).size = 3 := rfl
  rw [e3, cut_again s k, q3_cut h]
  have : 3 ≤ (s.extract k s.size).size := by rw [ByteArray.size_extract]; omega
  rw [decide_eq_true this, Bool.true_and, beq_self_eq_true]
theorem hp_no {s : ByteArray} {k : Nat} {u : UInt8} (h : ¬ tri s k u.toNat) : hp (s.extract k s.size) (q3 u) = false := by
  unfold hp
  have e3 : (q3 u).size = 3 := rfl
  rw [e3]
  by_cases h0 : k + 2 < s.size
  · rw [cut_again s k, toList_data, toList_data, cut_three h0]
    rw [Bool.and_eq_false_iff]
    right
    rw [beq_eq_false_iff_ne]
    intro he
    apply h
    have he' : [s[k], s[k + 1], s[k + 2]] = [u, u, u] := he
    simp only [List.cons.injEq, and_true] at he'
    refine ⟨h0, ?_, ?_, ?_⟩
    · rw [bt_lt (by omega), he'.1]
    · rw [bt_lt (by omega), he'.2.1]
    · rw [bt_lt (by omega), he'.2.2]
  · have : ¬ 3 ≤ (s.extract k s.size).size := by rw [ByteArray.size_extract]; omega
    rw [decide_eq_false this, Bool.false_and]
end Go.Proofs.Qxb6601764a.Pl
