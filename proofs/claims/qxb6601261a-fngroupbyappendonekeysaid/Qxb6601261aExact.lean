/-
  THE WALK OF FnGroupByIsExactGrouping (3).
-/
import Derived.Test.Qxb6601261aGroup
namespace Go.Proofs.Qxb6601261a
open Go.ChangeShapes Go.WideShapes Go.ChangeAt Go.RowKit

/-- cloneInts over whatever slice. -/
theorem clone_any (a : Option Addr) (m c : Nat) (f : Nat → Int) (w : World) (hnil : a = none → m = 0 ∧ c = 0) (hrow : Keys w a m f) (hm : m ≤ 65536) :
    Calls Try.prog 8 #[.slice a m c] w fun e w' => ∃ a' c', e = .returned (.slice a' m c') ∧ Keys w' a' m f ∧ Below w.heap.size w w' := by
  cases a with
  | none =>
    obtain ⟨rfl, rfl⟩ := hnil rfl
    exact (clone_nil w).mono fun e w' ⟨he, hw⟩ => ⟨none, 0, he, .inl rfl, by rw [hw]; exact Below.refl _ _⟩
  | some a => exact (clone_some a m c f w hrow hm).mono fun e w' ⟨he, hr, hb⟩ => ⟨_, m, he, hr.keys, hb⟩

/-- Of a group's numbers those at place j and behind are greater than p. -/
def After (f : Nat → Int) (m k j : Nat) (p : Int) : Prop := ∀ i, i < m → f i = k → j ≤ Pl.pos f m k i → p < i
theorem after_start (f : Nat → Int) (m k j : Nat) : After f m k j (-1) := fun i _ _ _ => by omega
theorem after_step (f : Nat → Int) (m k i : Nat) : After f m k (Pl.pos f m k i + 1) i := by
  intro i2 h2 hf2 hp
  by_cases h : i < i2
  · omega
  · have := Pl.cnt_mono f k (show i2 ≤ i by omega)
    unfold Pl.pos at hp
    omega

end Go.Proofs.Qxb6601261a
namespace Go.Proofs.Qxb6601261a.fnGroupByIsExactGrouping
open Go.ChangeShapes Go.WideShapes Go.ChangeAt Go.RowKit

set_option maxHeartbeats 1000000 in
set_option maxRecDepth 100000 in
theorem walk_in (n : Nat) (a : Option Addr) (m c : Nat) (f : Nat → Int) (w : World) (hnil : Hid (a = none → m = 0 ∧ c = 0)) (hrow : Hid (Keys w a m f)) (hm : m ≤ 65536) (hn : n ≤ 65536) :
    Calls Try.prog 3 #[.int .i64 n, .slice a m c] w fun e w' => e = .returned (.bool true) ∧ Below w.heap.size w w' := by
  go_enter Try.func3, Try.ntmps3
  go_wp2
  go_loop [5] (fun iv => ∃ i : Nat, i ≤ m ∧ iv = .int .i64 i ∧ ∀ j, j < i → -1 ≤ f j ∧ f j < n) (fun iv => m - (intOf iv).toNat)
  case atStart => exact ⟨0, by omega, rfl, fun j hj => by omega⟩
  case round =>
    obtain ⟨i, him, rfl, hok⟩ := hrel
    have HOK : Hid (∀ j, j < i → -1 ≤ f j ∧ f j < n) := hok
    clear hok
    by_cases hlt : i < m
    · rcases hrow.out with h0 | ⟨b, off, rfl, hb, hc⟩
      · exact absurd hlt (by omega)
      have hcs := hc i hlt
      clear hc
      obtain ⟨z, hz⟩ : ∃ z, z = f i := ⟨_, rfl⟩
      rw [← hz] at hcs
      have HZ : Hid (z = f i) := hz
      clear hz
      by_cases h1 : z < -1
      · go_wp2
        go_ret
        exact ⟨rfl, Below.refl _ _⟩
      · by_cases h2 : (n : Int) ≤ z
        · go_wp2
          go_ret
          exact ⟨rfl, Below.refl _ _⟩
        · go_wp2
          go_round
          case rel => exact ⟨i + 1, by omega, by go_num, fun j hj => by
            by_cases e : j = i
            · subst e; have := HZ.out; omega
            · exact HOK.out j (by omega)⟩
          case measure => simp [intOf]; omega
    · obtain rfl : m = i := by omega
      have K1 := clone_any a m c f w hnil.out hrow.out hm
      go_wp2_with fail
      refine K1.mono ?_
      rintro e w1 ⟨a', c', rfl, hk1, hb1⟩
      clear K1
      have HK1 : Hid (Keys w1 a' m f) := hk1
      have HB1 : Hid (Below w.heap.size w w1) := hb1
      clear hk1 hb1
      have K2 := zzGroup_any n m c' a' f w1 HK1 hn (by omega) HOK
      go_wp2_with fail
      refine K2.mono ?_
      rintro e w2 ⟨gs, gm, h, rfl, h1, h2, h3, h4⟩
      clear K2
      have HS : Hid (IRow w2 gs (n + 1) (fun k => Pl.S f m k)) := h1
      have HM : Hid (IRow w2 gm (Pl.S f m n) h) := h2
      have HP : Hid (Put f m m h) := h3
      have HB2 : Hid (Below w.heap.size w w2) := HB1.out.trans (h4.mono HB1.out.size)
      have HK2 : Hid (Keys w2 a' m f) := HK1.out.below h4
      have hs0 : w2.cell? ⟨gs, 0, none⟩ = some (.int .i64 0) := h1.cell (by omega)
      have hsn : w2.cell? ⟨gs, n, none⟩ = some (.int .i64 (Pl.S f m n : Nat)) := h1.cell (by omega)
      have hSm := Pl.S_le f m n
      have hkd : Pl.S f m n = Pl.keyed f m := Pl.S_keyed (fun j hj => (HOK.out j hj).2)
      have hkm := Pl.keyed_le f m
      have hkd1 : Pl.S f m n ≤ Pl.keyed f m := by omega
      have hkd2 : Pl.keyed f m ≤ Pl.S f m n := by omega
      clear h1 h2 h3 h4 HK1 HB1 hkd
      go_wp2
      go_loopw [8] (fun kv wr => ∃ k q : Nat, k ≤ n ∧ kv = .int .i64 k ∧ wr = w2.drewN q) (fun kv _ => n - (intOf kv).toNat)
      case atStart => exact ⟨0, 0, by omega, rfl, rfl⟩
      case round =>
        obtain ⟨k, q, hkn, rfl, rfl⟩ := hrel
        by_cases hlt2 : k < n
        · have c0 : w2.cell? ⟨gs, k, none⟩ = some (.int .i64 (Pl.S f m k : Nat)) := HS.out.cell (by omega)
          have c1 : w2.cell? ⟨gs, k + 1, none⟩ = some (.int .i64 (Pl.S f m (k + 1) : Nat)) := HS.out.cell (by omega)
          have hmo := Pl.S_mono f m (show k ≤ k + 1 by omega)
          have i1 : (k : Int) < ((n + 1 : Nat) : Int) := by omega
          have i2 : (k : Int) + 1 < ((n + 1 : Nat) : Int) := by omega
          go_wp2
          go_quiet (fail)
          go_wp2
          go_roundw
          case rel => exact ⟨k + 1, q + nq, by omega, by go_num, by simp⟩
          case measure => simp [intOf]; omega
        · go_wp2
          go_loop [9, 10] (fun dv iv => ∃ i : Nat, i ≤ m ∧ iv = .int .i64 i ∧ dv = .int .i64 (Pl.keyed f i : Nat)) (fun _ iv => m - (intOf iv).toNat)
          case atStart => exact ⟨0, by omega, rfl, rfl⟩
          case round =>
            obtain ⟨i, hi, rfl, rfl⟩ := hrel
            have hki := Pl.keyed_le f i
            by_cases hlt3 : i < m
            · rcases HK2.out with h0 | ⟨b, off, rfl, hb, hc⟩
              · exact absurd hlt3 (by omega)
              have hcs := hc i hlt3
              clear hc
              by_cases hneg : f i < 0
              · have HKY : Hid (Pl.keyed f (i + 1) = Pl.keyed f i) := by show _ = _; simp only [Pl.keyed]; rw [if_neg (by omega)]; rfl
                go_wp2
                go_round
                case rel => exact ⟨i + 1, by omega, by go_num, by rw [HKY.out]⟩
                case measure => simp [intOf]; omega
              · have HKY : Hid (Pl.keyed f (i + 1) = Pl.keyed f i + 1) := by show _ = _; simp only [Pl.keyed]; rw [if_pos (by omega)]
                go_wp2
                go_round
                case rel => exact ⟨i + 1, by omega, by go_num, by rw [HKY.out]; go_num⟩
                case measure => simp [intOf]; omega
            · obtain rfl : m = i := by omega
              go_wp2
              go_loop [11] (fun kv => ∃ k : Nat, k ≤ n ∧ kv = .int .i64 k) (fun kv => n - (intOf kv).toNat)
              case atStart => exact ⟨0, by omega, rfl⟩
              case round =>
                obtain ⟨k, hk4, rfl⟩ := hrel
                by_cases hlt4 : k < n
                · have d0 : w2.cell? ⟨gs, k, none⟩ = some (.int .i64 (Pl.S f m k : Nat)) := HS.out.cell (by omega)
                  have d1 : w2.cell? ⟨gs, k + 1, none⟩ = some (.int .i64 (Pl.S f m (k + 1) : Nat)) := HS.out.cell (by omega)
                  have hmo := Pl.S_mono f m (show k ≤ k + 1 by omega)
                  have hmn := Pl.S_mono f m (show k + 1 ≤ n by omega)
                  go_wp2
                  go_loop [12, 13] (fun pv jv => ∃ (j : Nat) (p : Int), Pl.S f m k ≤ j ∧ j ≤ Pl.S f m (k + 1) ∧ jv = .int .i64 j ∧ pv = .int .i64 p ∧ After f m k j p) (fun _ jv => Pl.S f m (k + 1) - (intOf jv).toNat)
                  case atStart => exact ⟨Pl.S f m k, -1, by omega, by omega, rfl, rfl, after_start f m k _⟩
                  case round =>
                    obtain ⟨j, p, hj1, hj2, rfl, rfl, haf⟩ := hrel
                    have HAF : Hid (After f m k j p) := haf
                    clear haf
                    by_cases hlt5 : j < Pl.S f m (k + 1)
                    · obtain ⟨i', hi', hfi, hpos⟩ := Pl.pos_at hj1 hlt5
                      have hmem : w2.cell? ⟨gm, j, none⟩ = some (.int .i64 (i' : Int)) := by
                        have hh := HP.out i' hi' k hfi
                        rw [hpos] at hh
                        rw [HM.out.cell (by omega), hh]
                      have hpi : p < (i' : Int) := HAF.out i' hi' hfi (by omega)
                      have HA2 : Hid (After f m k (j + 1) i') := by
                        have hh := after_step f m k i'
                        rw [hpos] at hh
                        exact hh
                      rcases HK2.out with h0 | ⟨b, off, rfl, hb, hc⟩
                      · exact absurd hi' (by omega)
                      have hcs : w2.cell? ⟨b, off + i', none⟩ = some (.int .i64 (k : Int)) := by rw [hc i' hi', hfi]
                      clear hc hfi hpos
                      go_wp2
                      go_round
                      case rel => exact ⟨j + 1, i', by omega, by omega, by go_num, rfl, HA2.out⟩
                      case measure => simp [intOf]; omega
                    · go_wp2
                      go_round
                      case rel => exact ⟨k + 1, by omega, by go_num⟩
                      case measure => simp [intOf]; omega
                · go_wp2
                  go_ret
                  exact ⟨rfl, below_drewN HB2.out q⟩

theorem walk_any (x : Int) (a : Option Addr) (m c : Nat) (f : Nat → Int) (w : World) (hnil : a = none → m = 0 ∧ c = 0) (hrow : Keys w a m f) :
    Calls Try.prog 3 #[.int .i64 x, .slice a m c] w fun e w' => e = .returned (.bool true) ∧ Below w.heap.size w w' := by
  by_cases hm : m ≤ 65536
  · by_cases h0 : x < 0
    · clear hnil hrow
      go_enter Try.func3, Try.ntmps3
      go_wp2
      go_ret
      exact ⟨rfl, Below.refl _ _⟩
    · by_cases h1 : 65536 < x
      · clear hnil hrow
        go_enter Try.func3, Try.ntmps3
        go_wp2
        go_ret
        exact ⟨rfl, Below.refl _ _⟩
      · obtain ⟨n, rfl⟩ := Int.eq_ofNat_of_zero_le (by omega : 0 ≤ x)
        exact walk_in n a m c f w hnil hrow hm (by omega)
  · clear hnil hrow
    by_cases hm2 : m ≤ 1048576
    · go_enter Try.func3, Try.ntmps3
      go_wp2
      go_ret
      exact ⟨rfl, Below.refl _ _⟩
    · go_enter Try.func3, Try.ntmps3
      go_wp2
      go_ret
      exact ⟨rfl, Below.refl _ _⟩
end Go.Proofs.Qxb6601261a.fnGroupByIsExactGrouping
