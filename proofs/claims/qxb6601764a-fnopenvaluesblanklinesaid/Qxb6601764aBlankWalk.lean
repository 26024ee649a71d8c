/-
  THE WALK OF FnOpenValuesBlankLine (5).
-/
import Derived.Test.Qxb6601764aValues
import Derived.Test.Qxb6601764aBlankPlain
namespace Go.Proofs.Qxb6601764a.fnOpenValuesBlankLine
open Go.ChangeShapes Go.WideShapes Go.ChangeAt Go.RowKit

theorem cell_put {w : World} {base g n i : Nat} {ss : List ByteArray} (hown : w.ownsRow base 9 1 (.slice (some ⟨g, 0, none⟩) n n) n (midS ss n i)) (hn : ss.length = n) (hi : i < n) :
    (∃ v, w.cell? ⟨g, i, none⟩ = some v) ∧ w.frozen? ⟨g, i, none⟩ = false := by
  refine ⟨?_, hown.frozenAt i⟩
  have h := hown.cellAt i (by omega)
  have hl := midS_length ss n i hn (by omega)
  rw [List.getElem?_eq_getElem (by omega)] at h
  exact ⟨_, h⟩
theorem put {w0 w : World} {base g n i : Nat} {ss : List ByteArray} {s : ByteArray} (hown : w.ownsRow base 9 1 (.slice (some ⟨g, 0, none⟩) n n) n (midS ss n i)) (hbel : Below g w0 w) (hn : ss.length = n) (hi : i < n) (hs : ss[i]? = some s) :
    (w.setCell ⟨g, i, none⟩ (.string s)).ownsRow base 9 1 (.slice (some ⟨g, 0, none⟩) n n) n (midS ss n (i + 1)) ∧ Below g w0 (w.setCell ⟨g, i, none⟩ (.string s)) := by
  have R := (hown.stored i (.string s)).1
  rw [midS_set ss n i s hn hi hs] at R
  exact ⟨R, hbel.setCell (Nat.le_refl _) _⟩

/-- What the two slices of answers hold: 'a' in block ga, 'b' in block gb. -/
structure Ans (w : World) (ga gb n k : Nat) : Prop where
  lt : ∀ j, j < k → ∃ b, w.cell? ⟨gb, j, none⟩ = some (.bool b) ∧ w.cell? ⟨ga, j, none⟩ = some (.bool b)
  at0 : k = 0 → w.cell? ⟨gb, k, none⟩ = some (.bool false)
  at1 : 0 < k → ∃ b, w.cell? ⟨gb, k, none⟩ = some (.bool b) ∧ w.cell? ⟨ga, k - 1, none⟩ = some (.bool b)
  gt : ∀ j, k ≤ j → j < n → ∃ b, w.cell? ⟨gb, j + 1, none⟩ = some (.bool b) ∧ w.cell? ⟨ga, j, none⟩ = some (.bool b)

theorem ans_of {w : World} {ga gb k : Nat} {ss : List ByteArray} (hk : k ≤ ss.length) (ha : Bits w ga (Pl.outs ss)) (hb : Bits w gb (Pl.outs (Pl.ins ss k))) : Ans w ga gb ss.length k := by
  refine ⟨fun j hj => ?_, fun h0 => ?_, fun h0 => ?_, fun j hj hn => ?_⟩
  · obtain ⟨b, h1, h2⟩ := Pl.blank_lt hk hj
    exact ⟨b, hb.2 _ _ h1, ha.2 _ _ h2⟩
  · subst h0
    have h := hb.2 _ _ (Pl.blank_at hk)
    rw [Pl.blank_start] at h
    exact h
  · refine ⟨Pl.isOpen (Pl.stt ss k), hb.2 _ _ (Pl.blank_at hk), ha.2 _ _ ?_⟩
    rw [Pl.outs_get (by omega), show k - 1 + 1 = k by omega]
  · obtain ⟨b, h1, h2⟩ := Pl.blank_gt hk hj hn
    exact ⟨b, hb.2 _ _ h1, ha.2 _ _ h2⟩

set_option maxHeartbeats 1000000 in
set_option maxRecDepth 100000 in
theorem walk_some (a : Addr) (n c : Nat) (ss : List ByteArray) (k : Nat) (w : World) (hn : Hid (n = ss.length)) (hrow : Hid (SRow w (some a) ss)) (hk : k ≤ n) :
    Calls Try.prog 5 #[.slice (some a) n c, .int .i64 k] w fun e w' => e = .returned (.bool true) ∧ Below w.heap.size w w' := by
  have K1 := bytes15_any ss (some a) c k w hrow.out
  rw [← hn.out] at K1
  go_enter Try.func5, Try.ntmps5
  go_wp2_with fail
  refine K1.mono ?_
  rintro e w' ⟨r, rfl, rfl, hr⟩
  clear K1
  cases r
  · go_wp2
    go_ret
    exact ⟨rfl, Below.refl _ _⟩
  have hr1 := hr rfl
  clear hr
  have K2 := small_any ss (some a) c w' hrow.out (by rw [← hn.out]; exact hr1.1) (fun j h => by
    have h1 := Pl.tot_succ h
    have h2 := Pl.tot_le ss (j + 1) ss.length h
    rw [← hn.out] at h2
    omega)
  rw [← hn.out] at K2
  clear hr1
  go_wp2_with fail
  refine K2.mono ?_
  rintro e w0 ⟨r, rfl, rfl, hr⟩
  clear K2
  cases r
  · go_wp2
    go_ret
    exact ⟨rfl, Below.refl _ _⟩
  obtain ⟨hn1, ht1⟩ := hr rfl
  have HT1 : Hid (Pl.tot ss ss.length ≤ 1048576) := by rw [← hn.out]; exact ht1
  clear hr ht1
  have K3 := copy_some ss a c w0 hrow.out (by rw [← hn.out]; exact hn1)
  rw [← hn.out] at K3
  go_wp2_with fail
  refine K3.mono ?_
  rintro e w1 ⟨rfl, hown1, hbel1⟩
  clear K3 hrow
  have hs1 : Strs w1 w0.heap.size ss := strs_of (by rw [← hn.out]; exact hown1)
  have HS1 : Hid (Strs w1 w0.heap.size ss) := hs1
  have HB1 : Hid (Below w0.heap.size w0 w1) := hbel1
  have hg1 : w0.heap.size < w1.heap.size := hs1.1
  clear hs1 hown1 hbel1
  have HLI : Hid ((Pl.ins ss k).length = n + 1) := by
    have h := Pl.ins_length (ss := ss) (k := k) (by rw [← hn.out]; exact hk)
    rw [← hn.out] at h
    exact h
  obtain ⟨i9, hi9, hz0, hz1, hz2⟩ := info_parts Try.info9
  go_wp2_with (first
    | (at_make; refine wpList_make_full _ rfl _ _ 22 rfl w1.heap.size 9 i9 (.string ⟨#[]⟩) 1 Try.underlying22 hi9 hz0 hz1 _ _ _ _ (n + 1) rfl rfl (by omega) (by omega) (by rw [hz2]; omega) (by unfold maxLen; omega) (Nat.le_refl _) ?_; intro w2 hown hgrow))
  have HP0 : Hid (w2.ownsRow w1.heap.size 9 1 (.slice (some ⟨w1.heap.size, 0, none⟩) (n + 1) (n + 1)) (n + 1) (midS (Pl.ins ss k) (n + 1) 0) ∧ Below w1.heap.size w1 w2) := by
    refine ⟨?_, (Below.refl _ _).grown hgrow (Nat.le_refl _) (fun k hk => by cases hk)⟩
    rw [midS_zero, ← toList_madeCells_one]
    have h := hown
    simp only [Value.cells, Nat.mul_one] at h
    exact h
  clear hown hgrow hi9 hz0 hz1 hz2
  go_loopw [6] (fun jv wr => ∃ j : Nat, j ≤ k ∧ jv = .int .i64 j ∧ wr.ownsRow w1.heap.size 9 1 (.slice (some ⟨w1.heap.size, 0, none⟩) (n + 1) (n + 1)) (n + 1) (midS (Pl.ins ss k) (n + 1) j) ∧ Below w1.heap.size w1 wr) (fun jv _ => k - (intOf jv).toNat)
  case atStart => exact ⟨0, by omega, rfl, HP0.out.1, HP0.out.2⟩
  case round =>
    clear HP0
    obtain ⟨j, hj, rfl, hown, hbel⟩ := hrel
    by_cases hlt : j < k
    · have hltS : j < ss.length := by rw [← hn.out]; omega
      obtain ⟨s, hs⟩ : ∃ s, ss[j]? = some s := ⟨_, List.getElem?_eq_getElem hltS⟩
      have hcs : wr.cell? ⟨w0.heap.size, j, none⟩ = some (.string s) := by
        rw [hbel.cell (by exact hg1), HS1.out.2 j hltS]
        rw [List.getElem?_eq_getElem hltS, Option.some.injEq] at hs
        rw [hs]
      obtain ⟨⟨v, hsc⟩, hsf⟩ := cell_put hown HLI.out (by omega)
      have HP : Hid _ := put hown hbel HLI.out (by omega) (by rw [Pl.ins_lt (by rw [← hn.out]; exact hk) hlt]; exact hs)
      clear hown hbel hs
      go_wp2
      go_roundw
      case rel => exact ⟨j + 1, by omega, by go_num, HP.out.1, HP.out.2⟩
      case measure => simp [intOf]; omega
    · obtain rfl : k = j := by omega
      obtain ⟨⟨v, hsc⟩, hsf⟩ := cell_put hown HLI.out (by omega)
      have HP : Hid _ := put hown hbel HLI.out (by omega) (Pl.ins_at (by rw [← hn.out]; exact hk))
      clear hown hbel
      go_wp2
      go_loopw [7] (fun jv wr => ∃ j : Nat, k ≤ j ∧ j ≤ n ∧ jv = .int .i64 j ∧ wr.ownsRow w1.heap.size 9 1 (.slice (some ⟨w1.heap.size, 0, none⟩) (n + 1) (n + 1)) (n + 1) (midS (Pl.ins ss k) (n + 1) (j + 1)) ∧ Below w1.heap.size w1 wr) (fun jv _ => n - (intOf jv).toNat)
      case atStart => exact ⟨k, by omega, by omega, rfl, HP.out.1, HP.out.2⟩
      case round =>
        clear HP
        obtain ⟨j', hj1, hj2, rfl, hown', hbel'⟩ := hrel
        by_cases hlt' : j' < n
        · have hltS : j' < ss.length := by rw [← hn.out]; exact hlt'
          obtain ⟨s', hs'⟩ : ∃ s, ss[j']? = some s := ⟨_, List.getElem?_eq_getElem hltS⟩
          have hcs : wr.cell? ⟨w0.heap.size, j', none⟩ = some (.string s') := by
            rw [hbel'.cell (by exact hg1), HS1.out.2 j' hltS]
            rw [List.getElem?_eq_getElem hltS, Option.some.injEq] at hs'
            rw [hs']
          obtain ⟨⟨v', hsc⟩, hsf⟩ := cell_put hown' HLI.out (by omega)
          have HP : Hid _ := put hown' hbel' HLI.out (by omega) (by rw [Pl.ins_gt (by rw [← hn.out]; exact hk) hj1]; exact hs')
          clear hown' hbel' hs'
          go_wp2
          go_roundw
          case rel => exact ⟨j' + 1, by omega, by omega, by go_num, HP.out.1, HP.out.2⟩
          case measure => simp [intOf]; omega
        · obtain rfl : n = j' := by omega
          have hs2 : Strs wr w1.heap.size (Pl.ins ss k) := by
            have e := midS_all (Pl.ins ss k)
            rw [HLI.out] at e
            rw [e] at hown'
            exact strs_of (by rw [HLI.out]; exact hown')
          have HS2 : Hid (Strs wr w1.heap.size (Pl.ins ss k)) := hs2
          have HS1' : Hid (Strs wr w0.heap.size ss) := HS1.out.later hbel' hg1
          have HBr : Hid (Below w0.heap.size w0 wr) := HB1.out.trans (hbel'.mono (by omega))
          have hg2 : w1.heap.size < wr.heap.size := hs2.1
          clear hown' hbel' hs2 HS1 HB1
          have K4 := zzOpen_any ss (some ⟨w0.heap.size, 0, none⟩) n n wr hn HS1'.out.row (by omega) HT1
          go_wp2_with fail
          refine K4.mono ?_
          rintro e w4 ⟨rfl, hbit4, hbel4⟩
          clear K4
          have HS2' : Hid (Strs w4 w1.heap.size (Pl.ins ss k)) := HS2.out.later hbel4 hg2
          have HBI4 : Hid (Bits w4 wr.heap.size (Pl.outs ss)) := hbit4
          have HB4 : Hid (Below wr.heap.size wr w4) := hbel4
          have hg3 : wr.heap.size < w4.heap.size := hbit4.1
          clear hbit4 hbel4 HS2 HS1'
          have K5 := zzOpen_any (Pl.ins ss k) (some ⟨w1.heap.size, 0, none⟩) (n + 1) (n + 1) w4 HLI.out.symm HS2'.out.row (by omega) (show Pl.tot _ _ ≤ _ by rw [Pl.ins_tot]; exact HT1.out)
          go_wp2_with fail
          refine K5.mono ?_
          rintro e w5 ⟨rfl, hbit5, hbel5⟩
          clear K5 HS2'
          have HA : Hid (Ans w5 wr.heap.size w4.heap.size n k) := by
            have h := ans_of (by rw [← hn.out]; exact hk) (HBI4.out.later hbel5 hg3) hbit5
            rw [← hn.out] at h
            exact h
          have HB5 : Hid (Below w0.heap.size w0 w5) := HBr.out.trans ((HB4.out.mono (by omega)).trans (hbel5.mono (by omega)))
          clear hbit5 hbel5 HBI4 HB4 HBr
          go_wp2
          go_loopw [10] (fun jv wr => ∃ j m : Nat, j ≤ k ∧ jv = .int .i64 j ∧ wr = w5.drewN m) (fun jv _ => k - (intOf jv).toNat)
          case atStart => exact ⟨0, 0, by omega, rfl, rfl⟩
          case round =>
            obtain ⟨j, m, hj, rfl, rfl⟩ := hrel
            by_cases hlt : j < k
            · obtain ⟨b, h1, h2⟩ := HA.out.lt j hlt
              have hj1 : (j : Int) < ((n + 1 : Nat) : Int) := by omega
              have hj2 : (j : Int) < (n : Int) := by omega
              go_wp2
              go_quiet (fail)
              go_wp2
              go_roundw
              case rel => exact ⟨j + 1, m + nq, by omega, by go_num, by simp⟩
              case measure => simp [intOf]; omega
            · by_cases hk0 : 0 < k
              · obtain ⟨b, h1, h2⟩ := HA.out.at1 hk0
                go_wp2
                go_loopw [12] (fun jv wr => ∃ j m' : Nat, k ≤ j ∧ j ≤ n ∧ jv = .int .i64 j ∧ wr = w5.drewN m') (fun jv _ => n - (intOf jv).toNat)
                case atStart => exact ⟨k, m, by omega, by omega, rfl, rfl⟩
                case round =>
                  obtain ⟨j', m', hj1, hj2, rfl, rfl⟩ := hrel
                  by_cases hlt' : j' < n
                  · obtain ⟨b', g1, g2⟩ := HA.out.gt j' hj1 hlt'
                    have hi1 : (j' : Int) + 1 < ((n + 1 : Nat) : Int) := by omega
                    have hi2 : (j' : Int) < (n : Int) := by omega
                    go_wp2
                    go_quiet (fail)
                    go_wp2
                    go_roundw
                    case rel => exact ⟨j' + 1, m' + nq, by omega, by omega, by go_num, by simp⟩
                    case measure => simp [intOf]; omega
                  · go_wp2
                    go_ret
                    exact ⟨rfl, below_drewN HB5.out m'⟩
              · obtain rfl : k = 0 := by omega
                have h1 := HA.out.at0 rfl
                go_wp2
                go_loopw [12] (fun jv wr => ∃ j m' : Nat, 0 ≤ j ∧ j ≤ n ∧ jv = .int .i64 j ∧ wr = w5.drewN m') (fun jv _ => n - (intOf jv).toNat)
                case atStart => exact ⟨0, m, by omega, by omega, rfl, rfl⟩
                case round =>
                  obtain ⟨j', m', hj1, hj2, rfl, rfl⟩ := hrel
                  by_cases hlt' : j' < n
                  · obtain ⟨b', g1, g2⟩ := HA.out.gt j' hj1 hlt'
                    have hi1 : (j' : Int) + 1 < ((n + 1 : Nat) : Int) := by omega
                    have hi2 : (j' : Int) < (n : Int) := by omega
                    go_wp2
                    go_quiet (fail)
                    go_wp2
                    go_roundw
                    case rel => exact ⟨j' + 1, m' + nq, by omega, by omega, by go_num, by simp⟩
                    case measure => simp [intOf]; omega
                  · go_wp2
                    go_ret
                    exact ⟨rfl, below_drewN HB5.out m'⟩
end Go.Proofs.Qxb6601764a.fnOpenValuesBlankLine
