/-
  openValues OVER WHATEVER SLICE OF STRINGS (12), its answers as cells; the facts that later calls carry on.
-/
import Derived.Test.Qxb6601764aText
namespace Go.Proofs.Qxb6601764a
open Go.ChangeShapes Go.WideShapes Go.ChangeAt Go.RowKit

/-- The block g holds the bools os. -/
def Bits (w : World) (g : Nat) (os : List Bool) : Prop := g < w.heap.size ∧ ∀ j b, os[j]? = some b → w.cell? ⟨g, j, none⟩ = some (.bool b)
/-- The block g holds the strings ss. -/
def Strs (w : World) (g : Nat) (ss : List ByteArray) : Prop := g < w.heap.size ∧ ∀ j, (h : j < ss.length) → w.cell? ⟨g, j, none⟩ = some (.string ss[j])

theorem owns_lt {w : World} {base e g n c : Nat} {xs : List Value} (h : w.ownsRow base e 1 (.slice (some ⟨g, 0, none⟩) n c) n xs) : g < w.heap.size := (h.lt g rfl).2
theorem bits_of {w : World} {base g : Nat} {os : List Bool} (h : w.ownsRow base 4 1 (.slice (some ⟨g, 0, none⟩) os.length os.length) os.length (os.map Value.bool)) : Bits w g os := by
  refine ⟨owns_lt h, fun j b hj => ?_⟩
  have hlt : j < os.length := (List.getElem?_eq_some_iff.1 hj).1
  rw [h.cellAt j (by omega), List.getElem?_map, hj]
  rfl
theorem strs_of {w : World} {base g : Nat} {ss : List ByteArray} (h : w.ownsRow base 9 1 (.slice (some ⟨g, 0, none⟩) ss.length ss.length) ss.length (ss.map Value.string)) : Strs w g ss := by
  refine ⟨owns_lt h, fun j hj => ?_⟩
  rw [h.cellAt j (by omega), List.getElem?_map, List.getElem?_eq_getElem hj]
  rfl
theorem Bits.later {w w' : World} {B g : Nat} {os : List Bool} (h : Bits w g os) (hb : Below B w w') (hg : g < B) : Bits w' g os :=
  ⟨Nat.lt_of_lt_of_le h.1 hb.size, fun j b hj => by rw [hb.cell (by exact hg)]; exact h.2 j b hj⟩
theorem Strs.later {w w' : World} {B g : Nat} {ss : List ByteArray} (h : Strs w g ss) (hb : Below B w w') (hg : g < B) : Strs w' g ss :=
  ⟨Nat.lt_of_lt_of_le h.1 hb.size, fun j hj => by rw [hb.cell (by exact hg)]; exact h.2 j hj⟩
theorem Strs.row {w : World} {g : Nat} {ss : List ByteArray} (h : Strs w g ss) : SRow w (some ⟨g, 0, none⟩) ss :=
  .inr ⟨g, 0, rfl, h.1, fun j hj => by rw [Nat.zero_add]; exact h.2 j hj⟩
theorem Strs.take {w : World} {g : Nat} {ss : List ByteArray} (h : Strs w g ss) (k : Nat) : Strs w g (ss.take k) :=
  ⟨h.1, fun j hj => by
    have hj' : j < ss.length := by rw [List.length_take] at hj; omega
    rw [List.getElem_take]
    exact h.2 j hj'⟩

theorem openValues_nil (a : Option Addr) (c : Nat) (w : World) :
    Calls Try.prog 23 #[.slice a 0 c] w fun e w' => e = .returned (.slice (some ⟨w.heap.size, 0, none⟩) 0 0) ∧ w.heap.size < w'.heap.size ∧ Below w.heap.size w w' := by
  obtain ⟨i4, hi4, hz0, hz1, hz2⟩ := info_parts Try.info4
  go_enter Try.func23, Try.ntmps23
  go_wp2_with (first
    | (at_make; refine wpList_make_full _ rfl _ _ 25 rfl w.heap.size 4 i4 (.bool false) 1 Try.underlying25 hi4 hz0 hz1 _ _ _ _ 0 rfl rfl rfl rfl (by rw [hz2]; omega) (by unfold maxLen; omega) (Nat.le_refl _) ?_; intro w1 hown hgrow)
    | go_in)
  have HB1 : Hid (w.heap.size < w1.heap.size ∧ Below w.heap.size w w1) := ⟨owns_lt hown, (Below.refl _ _).grown hgrow (Nat.le_refl _) (fun k hk => by cases hk)⟩
  clear hown hgrow hi4 hz0 hz1 hz2
  refine wp_loop_rounds 1 ?_
  rw [rounds_succ]
  go_wp2
  go_ret
  exact ⟨rfl, HB1.out⟩

theorem openValues_any (ss : List ByteArray) (a : Option Addr) (c : Nat) (w : World) (hrow : SRow w a ss) (hn : ss.length ≤ 65537) (ht : Pl.tot ss ss.length ≤ 1048576) :
    Calls Try.prog 23 #[.slice a ss.length c] w fun e w' => e = .returned (.slice (some ⟨w.heap.size, 0, none⟩) ss.length ss.length) ∧ Bits w' w.heap.size (Pl.outs ss) ∧ Below w.heap.size w w' := by
  rcases hrow with rfl | ⟨b, off, rfl, hb, hc⟩
  · refine (openValues_nil a c w).mono fun e w' ⟨he, hlt, hbel⟩ => ⟨he, ⟨hlt, fun j b hj => ?_⟩, hbel⟩
    simp [Pl.outs] at hj
  · refine (openValues_some ss b off c w hb hn ht hc).mono fun e w' ⟨he, hown, hbel⟩ => ⟨he, ?_, hbel⟩
    have hl := Pl.outs_length ss
    exact bits_of (by rw [hl]; exact hown)

theorem zzOpen_any (ss : List ByteArray) (a : Option Addr) (n c : Nat) (w : World) (hnl : Hid (n = ss.length)) (hrow : Hid (SRow w a ss)) (hn : n ≤ 65537) (ht : Hid (Pl.tot ss ss.length ≤ 1048576)) :
    Calls Try.prog 12 #[.slice a n c] w fun e w' => e = .returned (.slice (some ⟨w.heap.size, 0, none⟩) n n) ∧ Bits w' w.heap.size (Pl.outs ss) ∧ Below w.heap.size w w' := by
  have K := openValues_any ss a c w hrow.out (by rw [← hnl.out]; exact hn) ht.out
  rw [← hnl.out] at K
  clear hrow hnl ht
  go_enter Try.func12, Try.ntmps12
  go_wp2_with (first | (go_at_call 23; refine K.mono ?_; rintro e w' ⟨rfl, hb1, hb2⟩))
  have HB : Hid (Bits w' w.heap.size (Pl.outs ss) ∧ Below w.heap.size w w') := ⟨hb1, hb2⟩
  clear hb1 hb2 K
  go_ret
  exact ⟨rfl, HB.out⟩
end Go.Proofs.Qxb6601764a
