/-
  ROWS OF INTEGERS IN MEMORY, told by a function of the place; a box of two cells.
-/
import Derived.Test.Qxb6601261aRows
import Derived.Test.Qxb6601261aPlain
import Derived.WalkKit
import Derived.ProofKit
import Derived.WalkLawsBesides
import Derived.WalkSpells
import Derived.Below
import Derived.WalkSmall
import Derived.RegionTactic
import Derived.ChangeAlike
import Derived.Deep.QuietTactic
import Derived.BigQuiet
namespace Go.Proofs.Qxb6601261a
open Go.ChangeShapes Go.WideShapes Go.ChangeAt Go.RowKit

/-- Block g is a row of n integers, f j at place j; it may be written. -/
def IRow (w : World) (g n : Nat) (f : Nat → Int) : Prop :=
  ∃ cs : Array Value, w.heap[g]? = some (.cells cs 3 (0, 0)) ∧ cs.size = n ∧ ∀ j, j < n → cs[j]? = some (.int .i64 (f j))

section
variable {w w' : World} {g n j : Nat} {f f' : Nat → Int} {v : Int}

theorem IRow.lt (h : IRow w g n f) : g < w.heap.size := by
  obtain ⟨cs, h1, _⟩ := h
  exact (Array.getElem?_eq_some_iff.1 h1).1
theorem IRow.cell (h : IRow w g n f) (hj : j < n) : w.cell? ⟨g, j, none⟩ = some (.int .i64 (f j)) := by
  obtain ⟨cs, h1, _, h3⟩ := h
  rw [cell_of_row w g j cs 3 (0, 0) h1]
  exact h3 j hj
theorem IRow.free (h : IRow w g n f) (j : Nat) : w.frozen? ⟨g, j, none⟩ = false := by
  obtain ⟨cs, h1, _⟩ := h
  exact frozen_of_row w g j cs 3 h1
theorem IRow.put (h : IRow w g n f) (hf : ∀ i, i < n → f' i = if i = j then v else f i) : IRow (w.setCell ⟨g, j, none⟩ (.int .i64 v)) g n f' := by
  obtain ⟨cs, h1, h2, h3⟩ := h
  refine ⟨cs.setIfInBounds j (.int .i64 v), heap_setCell_same w g j cs 3 _ h1, by simpa using h2, fun i hi => ?_⟩
  rw [hf i hi, Array.getElem?_setIfInBounds]
  by_cases e : i = j
  · subst e
    rw [if_pos rfl, if_pos rfl, if_pos (by omega)]
  · rw [if_neg (fun h => e h.symm), if_neg e]
    exact h3 i hi
theorem IRow.keep (h : IRow w g n f) (hb : w'.heap[g]? = w.heap[g]?) : IRow w' g n f := by
  obtain ⟨cs, h1, h2⟩ := h
  exact ⟨cs, hb.trans h1, h2⟩
theorem IRow.other (h : IRow w g n f) {a : Addr} {u : Value} (hne : g ≠ a.block) : IRow (w.setCell a u) g n f := h.keep (heap_setCell_other w a g u hne)
theorem IRow.drewN (h : IRow w g n f) (m : Nat) : IRow (w.drewN m) g n f := h
theorem IRow.below {B : Nat} (h : IRow w g n f) (hb : Below B w w') (hg : g < B) : IRow w' g n f := h.keep (hb.block g hg)
theorem IRow.congr (h : IRow w g n f) (hf : ∀ i, i < n → f' i = f i) : IRow w g n f' := by
  obtain ⟨cs, h1, h2, h3⟩ := h
  exact ⟨cs, h1, h2, fun i hi => by rw [hf i hi]; exact h3 i hi⟩
theorem IRow.grown {row : Option Nat} (h : IRow w g n f) (hg : w.grownBy w' row) (hne : some g ≠ row) : IRow w' g n f := h.keep (hg.block g h.lt hne)
theorem irow_made {base : Nat} (h : w.ownsRow base 3 1 (.slice (some ⟨g, 0, none⟩) n n) n (madeCells (Value.int .i64 0).cells (n * 1)).toList) : IRow w g n (fun _ => 0) := by
  rcases h.2 with ⟨h', _⟩ | ⟨g', cap, cur, h', _, hg, _, _, hcs, htake⟩
  · simp at h'
  · simp only [Value.slice.injEq, Option.some.injEq, Addr.mk.injEq, and_true, true_and] at h'
    obtain ⟨rfl, rfl⟩ := h'
    refine ⟨cur, hg, by simpa using hcs, fun j hj => ?_⟩
    rw [List.take_of_length_le (by simp [hcs])] at htake
    rw [← Array.getElem?_toList, htake]
    simp only [Value.cells, Nat.mul_one, toList_madeCells_one]
    rw [List.getElem?_replicate, if_pos hj]
end

/-- A slice of integers that came in, or that a call has made: its m numbers are f 0 .. f (m-1). -/
def Keys (w : World) (a : Option Addr) (m : Nat) (f : Nat → Int) : Prop :=
  m = 0 ∨ ∃ b off, a = some ⟨b, off, none⟩ ∧ b < w.heap.size ∧ ∀ j, j < m → w.cell? ⟨b, off + j, none⟩ = some (.int .i64 (f j))
theorem IRow.keys {w : World} {g n : Nat} {f : Nat → Int} (h : IRow w g n f) : Keys w (some ⟨g, 0, none⟩) n f :=
  .inr ⟨g, 0, rfl, h.lt, fun j hj => by rw [Nat.zero_add]; exact h.cell hj⟩
theorem Keys.below {w w' : World} {a : Option Addr} {m : Nat} {f : Nat → Int} (h : Keys w a m f) (hb : Below w.heap.size w w') : Keys w' a m f := by
  rcases h with h | ⟨b, off, ha, hlt, hc⟩
  · exact .inl h
  · exact .inr ⟨b, off, ha, Nat.lt_of_lt_of_le hlt hb.size, fun j hj => by rw [hb.cell (by exact hlt)]; exact hc j hj⟩

theorem Try.info3 : (Try.prog.info? 3).map (fun i => (i.zero, i.size, i.bytes)) = some (some (.int .i64 0), 1, 8) := by kernel_rfl
end Go.Proofs.Qxb6601261a
