/-
  AN EMPTY LINE PUT IN BEFORE LINE k: the plain law.
-/
import Derived.Test.Qxb6601764aScan
namespace Go.Proofs.Qxb6601764a.Pl

def ins (ss : List ByteArray) (k : Nat) : List ByteArray := ss.take k ++ ⟨#[]⟩ :: ss.drop k

theorem ins_length {ss : List ByteArray} {k : Nat} (hk : k ≤ ss.length) : (ins ss k).length = ss.length + 1 := by
  unfold ins; simp; omega
theorem ins_lt {ss : List ByteArray} {k j : Nat} (hk : k ≤ ss.length) (hj : j < k) : (ins ss k)[j]? = ss[j]? := by
  unfold ins
  rw [List.getElem?_append_left (by rw [List.length_take]; omega), List.getElem?_take, if_pos hj]
theorem ins_at {ss : List ByteArray} {k : Nat} (hk : k ≤ ss.length) : (ins ss k)[k]? = some ⟨#[]⟩ := by
  unfold ins
  rw [List.getElem?_append_right (by rw [List.length_take]; omega), List.length_take, Nat.min_eq_left hk, Nat.sub_self]
  rfl
theorem ins_gt {ss : List ByteArray} {k j : Nat} (hk : k ≤ ss.length) (hj : k ≤ j) : (ins ss k)[j + 1]? = ss[j]? := by
  unfold ins
  rw [List.getElem?_append_right (by rw [List.length_take]; omega), List.length_take, Nat.min_eq_left hk, show j + 1 - k = (j - k) + 1 by omega, List.getElem?_cons_succ, List.getElem?_drop, show k + (j - k) = j by omega]
theorem ins_tot {ss : List ByteArray} {k : Nat} : tot (ins ss k) (ins ss k).length = tot ss ss.length := by
  unfold tot ins
  rw [List.take_length, List.take_length, List.map_append, List.map_cons, List.sum_append, List.sum_cons]
  have e : ((ss.take k ++ ss.drop k).map ByteArray.size).sum = (ss.map ByteArray.size).sum := by rw [List.take_append_drop]
  rw [List.map_append, List.sum_append] at e
  have z : (⟨#[]⟩ : ByteArray).size = 0 := rfl
  omega
theorem after_empty (x : Int × Nat) : after x ⟨#[]⟩ = x := T_end (Nat.le_refl _)
theorem ins_stt_lt {ss : List ByteArray} {k j : Nat} (hk : k ≤ ss.length) (hj : j ≤ k) : stt (ins ss k) j = stt ss j := by
  unfold stt ins
  rw [List.take_append_of_le_length (by rw [List.length_take]; omega), List.take_take, Nat.min_eq_left hj]
theorem ins_stt_gt {ss : List ByteArray} {k : Nat} (hk : k ≤ ss.length) (m : Nat) (hm : k + m ≤ ss.length) : stt (ins ss k) (k + m + 1) = stt ss (k + m) := by
  induction m with
  | zero =>
    have hl : k < (ins ss k).length := by rw [ins_length hk]; omega
    rw [Nat.add_zero, stt_succ hl, ins_stt_lt hk (Nat.le_refl _)]
    have e := ins_at hk
    rw [List.getElem?_eq_getElem hl, Option.some.injEq] at e
    rw [e, after_empty, Nat.add_zero]
  | succ m ih =>
    have hl : k + m + 1 < (ins ss k).length := by rw [ins_length hk]; omega
    have hs : k + m < ss.length := by omega
    show stt (ins ss k) (k + m + 1 + 1) = stt ss (k + m + 1)
    rw [stt_succ hl, ih (by omega), stt_succ hs]
    have e := ins_gt (j := k + m) hk (by omega)
    rw [List.getElem?_eq_getElem hl, List.getElem?_eq_getElem hs, Option.some.injEq] at e
    rw [e]
theorem blank_lt {ss : List ByteArray} {k j : Nat} (hk : k ≤ ss.length) (hj : j < k) : ∃ b, (outs (ins ss k))[j]? = some b ∧ (outs ss)[j]? = some b := by
  refine ⟨isOpen (stt ss (j + 1)), ?_, outs_get (by omega)⟩
  rw [outs_get (by rw [ins_length hk]; omega), ins_stt_lt hk (by omega)]
theorem blank_at {ss : List ByteArray} {k : Nat} (hk : k ≤ ss.length) : (outs (ins ss k))[k]? = some (isOpen (stt ss k)) := by
  rw [outs_get (by rw [ins_length hk]; omega)]
  have h : stt (ins ss k) (k + 1) = stt ss k := ins_stt_gt hk 0 hk
  rw [h]
theorem blank_gt {ss : List ByteArray} {k j : Nat} (hk : k ≤ ss.length) (hj : k ≤ j) (hn : j < ss.length) : ∃ b, (outs (ins ss k))[j + 1]? = some b ∧ (outs ss)[j]? = some b := by
  refine ⟨isOpen (stt ss (j + 1)), ?_, outs_get hn⟩
  rw [outs_get (by rw [ins_length hk]; omega)]
  have := ins_stt_gt hk (j + 1 - k) (by omega)
  rw [show k + (j + 1 - k) = j + 1 by omega] at this
  rw [this]
theorem blank_start {ss : List ByteArray} : isOpen (stt ss 0) = false := by rw [stt_zero]; rfl
end Go.Proofs.Qxb6601764a.Pl
