/-
  cloneInts (8).
-/
import Derived.Test.Qxb6601261aRow
namespace Go.Proofs.Qxb6601261a
open Go.ChangeShapes Go.WideShapes Go.ChangeAt Go.RowKit

theorem clone_nil (w : World) : Calls Try.prog 8 #[.slice none 0 0] w fun e w' => e = .returned (.slice none 0 0) ∧ w' = w := by
  have hnil := fun wx => Lib.run_eql_slice_nil (P := Try.prog) wx 22 3 none 0 0 0 0 Try.underlying22
  go_enter Try.func8, Try.ntmps8
  go_wp2
  go_ret
  exact ⟨rfl, rfl⟩

set_option maxHeartbeats 400000 in
theorem clone_some (a : Addr) (m c : Nat) (f : Nat → Int) (w : World) (hrow : Keys w (some a) m f) (hm : m ≤ 65536) :
    Calls Try.prog 8 #[.slice (some a) m c] w fun e w' => e = .returned (.slice (some ⟨w.heap.size, 0, none⟩) m m) ∧ IRow w' w.heap.size m f ∧ Below w.heap.size w w' := by
  have hnil := fun wx => Lib.run_eql_slice_nil (P := Try.prog) wx 22 3 (some a) m c 0 0 Try.underlying22
  have HROW : Hid (Keys w (some a) m f) := hrow
  clear hrow
  obtain ⟨i3, hi3, hz0, hz1, hz2⟩ := info_parts Try.info3
  go_enter Try.func8, Try.ntmps8
  go_wp2_with (first
    | (at_make; refine wpList_make_full _ rfl _ _ 22 rfl w.heap.size 3 i3 (.int .i64 0) 1 Try.underlying22 hi3 hz0 hz1 _ _ _ _ m rfl rfl rfl rfl (by rw [hz2]; omega) (by unfold maxLen; omega) (Nat.le_refl _) ?_; intro w1 hown hgrow)
    | go_in)
  have HO : Hid (IRow w1 w.heap.size m (fun _ => 0)) := irow_made hown
  have HB1 : Hid (Below w.heap.size w w1) := (Below.refl _ _).grown hgrow (Nat.le_refl _) (fun k hk => by cases hk)
  clear hown hgrow hi3 hz0 hz1 hz2 hnil
  go_loopw [4] (fun jv wr => ∃ j : Nat, j ≤ m ∧ jv = .int .i64 j ∧ IRow wr w.heap.size m (fun i => if i < j then f i else 0) ∧ Below w.heap.size w wr) (fun jv _ => m - (intOf jv).toNat)
  case atStart => exact ⟨0, by omega, rfl, HO.out.congr (fun i hi => by simp), HB1.out⟩
  case round =>
    clear HO HB1
    obtain ⟨j, hj, rfl, hown, hbel⟩ := hrel
    by_cases hlt : j < m
    · rcases HROW.out with h0 | ⟨b, off, ha, hb, hc⟩
      · exact absurd hlt (by omega)
      · simp only [Option.some.injEq] at ha
        subst ha
        have hcs : wr.cell? ⟨b, off + j, none⟩ = some (.int .i64 (f j)) := by rw [hbel.cell (by exact hb)]; exact hc j hlt
        have hsc := hown.cell hlt
        have hsf := hown.free j
        have HR : Hid (IRow (wr.setCell ⟨w.heap.size, j, none⟩ (.int .i64 (f j))) w.heap.size m (fun i => if i < j + 1 then f i else 0)) := hown.put (fun i hi => by
          by_cases e : i = j
          · subst e; simp
          · rw [if_neg e]
            by_cases h : i < j
            · rw [if_pos h, if_pos (by omega)]
            · rw [if_neg h, if_neg (by omega)])
        have HR2 : Hid (Below w.heap.size w (wr.setCell ⟨w.heap.size, j, none⟩ (.int .i64 (f j)))) := hbel.setCell (p := ⟨w.heap.size, j, none⟩) (Nat.le_refl _) _
        clear hc HROW hown hbel
        go_wp2
        go_roundw
        case rel => exact ⟨j + 1, by omega, by go_num, HR.out, HR2.out⟩
        case measure => simp [intOf]; omega
    · obtain rfl : m = j := by omega
      have HO : Hid (IRow wr w.heap.size m f) := hown.congr (fun i hi => by rw [if_pos hi])
      have HB : Hid (Below w.heap.size w wr) := hbel
      clear hown hbel
      go_wp2
      go_ret
      exact ⟨rfl, HO.out, HB.out⟩
end Go.Proofs.Qxb6601261a
