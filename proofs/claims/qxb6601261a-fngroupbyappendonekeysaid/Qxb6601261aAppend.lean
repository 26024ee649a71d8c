/-
  THE WALK OF FnGroupByAppendOneKey (4).
-/
import Derived.Test.Qxb6601261aExact
import Derived.Test.Qxb6601261aAppPlain
namespace Go.Proofs.Qxb6601261a.fnGroupByAppendOneKey
open Go.ChangeShapes Go.WideShapes Go.ChangeAt Go.RowKit

/-- What the two groupings hold, as the comparison reads them: starts in blocks gs, gs2, members in gm, gm2 (M and M2 of them). -/
structure Both (w : World) (f : Nat → Int) (m n : Nat) (z : Int) (gs gm gs2 gm2 : Nat) (h h2 : Nat → Int) : Prop where
  st : IRow w gs (n + 1) (fun k => Pl.S f m k)
  st2 : IRow w gs2 (n + 1) (fun k => Pl.S (Pl.app f m z) (m + 1) k)
  me : IRow w gm (Pl.S f m n) h
  me2 : IRow w gm2 (Pl.S (Pl.app f m z) (m + 1) n) h2
  pu : Put f m m h
  pu2 : Put (Pl.app f m z) (m + 1) (m + 1) h2

set_option maxHeartbeats 2000000 in
set_option maxRecDepth 100000 in
theorem walk_in (n : Nat) (z : Int) (a : Option Addr) (m c : Nat) (f : Nat → Int) (w : World) (hnil : Hid (a = none → m = 0 ∧ c = 0)) (hrow : Hid (Keys w a m f)) (hm : m ≤ 65536) (hn : n ≤ 65536) (hz1 : -1 ≤ z) (hz2 : z < n) :
    Calls Try.prog 4 #[.int .i64 n, .slice a m c, .int .i64 z] w fun e w' => e = .returned (.bool true) ∧ Below w.heap.size w w' := by
  obtain ⟨i3, hi3, hy0, hy1, hy2⟩ := info_parts Try.info3
  go_enter Try.func4, Try.ntmps4
  go_wp2
  go_loop [7] (fun iv => ∃ i : Nat, i ≤ m ∧ iv = .int .i64 i ∧ ∀ j, j < i → -1 ≤ f j ∧ f j < n) (fun iv => m - (intOf iv).toNat)
  case atStart => exact ⟨0, by omega, rfl, fun j hj => by omega⟩
  case round =>
    obtain ⟨i, him, rfl, hok⟩ := hrel
    have HOK : Hid (∀ j, j < i → -1 ≤ f j ∧ f j < n) := hok
    clear hok
    by_cases hlt : i < m
    · rcases hrow.out with h0 | ⟨b, off, rfl, hb, hc⟩
      · exact absurd hlt (by omega)
      have hcs := hc i hlt
      clear hc
      obtain ⟨y, hy⟩ : ∃ y, y = f i := ⟨_, rfl⟩
      rw [← hy] at hcs
      have HZ : Hid (y = f i) := hy
      clear hy
      by_cases h1 : y < -1
      · go_wp2
        go_ret
        exact ⟨rfl, Below.refl _ _⟩
      · by_cases h2 : (n : Int) ≤ y
        · go_wp2
          go_ret
          exact ⟨rfl, Below.refl _ _⟩
        · go_wp2
          go_round
          case rel => exact ⟨i + 1, by omega, by go_num, fun j hj => by
            by_cases e : j = i
            · subst e; have := HZ.out; omega
            · exact HOK.out j (by omega)⟩
          case measure => simp [intOf]; omega
    · obtain rfl : m = i := by omega
      have K1 := clone_any a m c f w hnil.out hrow.out hm
      go_wp2_with fail
      refine K1.mono ?_
      rintro e w1 ⟨a', c', rfl, hk1, hb1⟩
      clear K1
      have HK1 : Hid (Keys w1 a' m f) := hk1
      have HB1 : Hid (Below w.heap.size w w1) := hb1
      clear hk1 hb1
      have K2 := zzGroup_any n m c' a' f w1 HK1 hn (by omega) HOK
      go_wp2_with fail
      refine K2.mono ?_
      rintro e w2 ⟨gs, gm, h, rfl, h1, h2, h3, h4⟩
      clear K2
      have HS : Hid (IRow w2 gs (n + 1) (fun k => Pl.S f m k)) := h1
      have HM : Hid (IRow w2 gm (Pl.S f m n) h) := h2
      have HP : Hid (Put f m m h) := h3
      have HB2 : Hid (Below w.heap.size w w2) := HB1.out.trans (h4.mono HB1.out.size)
      have HK2 : Hid (Keys w2 a' m f) := HK1.out.below h4
      clear h1 h2 h3 h4 HK1 HB1
      go_wp2_with (first
        | (at_make; refine wpList_make_full _ rfl _ _ 22 rfl 0 3 i3 (.int .i64 0) 1 Try.underlying22 hi3 hy0 hy1 _ _ _ _ (m + 1) rfl rfl (by omega) (by omega) (by rw [hy2]; omega) (by unfold maxLen; omega) (Nat.zero_le _) ?_; intro w3 hown hgrow))
      have HE3 : Hid (IRow w3 w2.heap.size (m + 1) (fun _ => 0) ∧ Below w2.heap.size w2 w3) := ⟨irow_made hown, (Below.refl _ _).grown hgrow (Nat.le_refl _) (fun k hk => by cases hk)⟩
      clear hown hgrow
      go_loopw [11] (fun jv wr => ∃ j : Nat, j ≤ m ∧ jv = .int .i64 j ∧ IRow wr w2.heap.size (m + 1) (fun i => if i < j then f i else 0) ∧ Below w2.heap.size w2 wr) (fun jv _ => m - (intOf jv).toNat)
      case atStart => exact ⟨0, by omega, rfl, HE3.out.1.congr (fun i _ => by simp), HE3.out.2⟩
      case round =>
        clear HE3
        obtain ⟨j, hj, rfl, hown, hbel⟩ := hrel
        by_cases hlt2 : j < m
        · rcases HK2.out with h0 | ⟨b, off, rfl, hb, hc⟩
          · exact absurd hlt2 (by omega)
          have hcs : wr.cell? ⟨b, off + j, none⟩ = some (.int .i64 (f j)) := by rw [hbel.cell (by exact hb)]; exact hc j hlt2
          have hsc := hown.cell (show j < m + 1 by omega)
          have hsf := hown.free j
          have HR : Hid (IRow (wr.setCell ⟨w2.heap.size, j, none⟩ (.int .i64 (f j))) w2.heap.size (m + 1) (fun i => if i < j + 1 then f i else 0)) := hown.put (fun i hi => by
            by_cases e : i = j
            · subst e; simp
            · rw [if_neg e]
              by_cases h : i < j
              · rw [if_pos h, if_pos (by omega)]
              · rw [if_neg h, if_neg (by omega)])
          have HR2 : Hid (Below w2.heap.size w2 (wr.setCell ⟨w2.heap.size, j, none⟩ (.int .i64 (f j)))) := hbel.setCell (p := ⟨w2.heap.size, j, none⟩) (Nat.le_refl _) _
          clear hc hown hbel
          go_wp2
          go_roundw
          case rel => exact ⟨j + 1, by omega, by go_num, HR.out, HR2.out⟩
          case measure => simp [intOf]; omega
        · obtain rfl : m = j := by omega
          have hsc := hown.cell (show m < m + 1 by omega)
          have hsf := hown.free m
          have HR : Hid (IRow (wr.setCell ⟨w2.heap.size, m, none⟩ (.int .i64 z)) w2.heap.size (m + 1) (Pl.app f m z)) := hown.put (fun i hi => by
            unfold Pl.app
            by_cases e : i = m
            · subst e; simp
            · rw [if_neg e, if_pos (by omega), if_pos (by omega)])
          have HR2 : Hid (Below w2.heap.size w2 (wr.setCell ⟨w2.heap.size, m, none⟩ (.int .i64 z))) := hbel.setCell (p := ⟨w2.heap.size, m, none⟩) (Nat.le_refl _) _
          clear hown hbel
          go_wp2_with fail
          generalize wr.setCell ⟨w2.heap.size, m, none⟩ (.int .i64 z) = w4 at HR HR2 ⊢
          have K5 := zzGroup_any n (m + 1) (m + 1) (some ⟨w2.heap.size, 0, none⟩) (Pl.app f m z) w4 HR.out.keys hn (by omega) (fun j hj => app_range HOK.out hz1 hz2 hj)
          refine K5.mono ?_
          rintro e w5 ⟨gs2, gm2, h2, rfl, h1, h2', h3, h4⟩
          clear K5
          have hlt24 := HR2.out.size
          have HBO : Hid (Both w5 f m n z gs gm gs2 gm2 h h2) :=
            ⟨(HS.out.below HR2.out HS.out.lt).below h4 (Nat.lt_of_lt_of_le HS.out.lt HR2.out.size), h1, (HM.out.below HR2.out HM.out.lt).below h4 (Nat.lt_of_lt_of_le HM.out.lt HR2.out.size), h2', HP.out, h3⟩
          have HB5 : Hid (Below w.heap.size w w5) := HB2.out.trans ((HR2.out.mono HB2.out.size).trans (h4.mono (Nat.le_trans HB2.out.size HR2.out.size)))
          clear h1 h2' h3 h4 HR HR2 HS HM HP HB2 HK2 hsc hsf
          have hSm := Pl.S_le f m n
          have hSm2 := Pl.S_le (Pl.app f m z) (m + 1) n
          obtain ⟨M, hM⟩ : ∃ M, M = Pl.S f m n := ⟨_, rfl⟩
          obtain ⟨M2, hM2⟩ : ∃ M2, M2 = Pl.S (Pl.app f m z) (m + 1) n := ⟨_, rfl⟩
          rw [← hM, ← hM2]
          rw [← hM] at hSm
          rw [← hM2] at hSm2
          have HMM : Hid (M = Pl.S f m n) := hM
          have HMM2 : Hid (M2 = Pl.S (Pl.app f m z) (m + 1) n) := hM2
          clear hM hM2
          by_cases hneg : z < 0
          · have hMM1 : M2 ≤ M := by rw [HMM.out, HMM2.out, start_neg hneg]; exact Nat.le_refl _
            have hMM2 : M ≤ M2 := by rw [HMM.out, HMM2.out, start_neg hneg]; exact Nat.le_refl _
            go_wp2
            go_loopw [14] (fun jv wr => ∃ j q : Nat, j ≤ n + 1 ∧ jv = .int .i64 j ∧ wr = w5.drewN q) (fun jv _ => n + 1 - (intOf jv).toNat)
            case atStart => exact ⟨0, 0, by omega, rfl, rfl⟩
            case round =>
              obtain ⟨j, q, hj, rfl, rfl⟩ := hrel
              by_cases hlt3 : j ≤ n
              · have c1 : w5.cell? ⟨gs, j, none⟩ = some (.int .i64 (Pl.S f m j : Nat)) := HBO.out.st.cell (by omega)
                have c2 : w5.cell? ⟨gs2, j, none⟩ = some (.int .i64 (Pl.S f m j : Nat)) := by rw [HBO.out.st2.cell (by omega), start_neg hneg]
                have i1 : (j : Int) < ((n + 1 : Nat) : Int) := by omega
                go_wp2
                go_quiet (fail)
                go_wp2
                go_roundw
                case rel => exact ⟨j + 1, q + nq, by omega, by go_num, by simp⟩
                case measure => simp [intOf]; omega
              · go_wp2
                go_loopw [15] (fun jv wr => ∃ j q : Nat, j ≤ M ∧ jv = .int .i64 j ∧ wr = w5.drewN q) (fun jv _ => M - (intOf jv).toNat)
                case atStart => exact ⟨0, q, by omega, rfl, rfl⟩
                case round =>
                  obtain ⟨j, q, hj, rfl, rfl⟩ := hrel
                  by_cases hlt4 : j < M
                  · have e := same_neg (n := n) (p := j) hneg HBO.out.pu HBO.out.pu2 (by rw [← HMM.out]; exact hlt4)
                    have c1 : w5.cell? ⟨gm, j, none⟩ = some (.int .i64 (h j)) := HBO.out.me.cell (by rw [← HMM.out]; exact hlt4)
                    have c2 : w5.cell? ⟨gm2, j, none⟩ = some (.int .i64 (h j)) := by rw [HBO.out.me2.cell (by rw [← HMM2.out]; omega), e]
                    have i1 : (j : Int) < (M : Int) := by omega
                    have i2 : (j : Int) < (M2 : Int) := by omega
                    clear e
                    go_wp2
                    go_quiet (fail)
                    go_wp2
                    go_roundw
                    case rel => exact ⟨j + 1, q + nq, by omega, by go_num, by simp⟩
                    case measure => simp [intOf]; omega
                  · go_wp2
                    go_ret
                    exact ⟨rfl, below_drewN HB5.out q⟩
          · obtain ⟨k0, hk0⟩ := Int.eq_ofNat_of_zero_le (by omega : 0 ≤ z)
            have HZ0 : Hid (z = k0) := hk0
            subst hk0
            have hkn : k0 < n := by omega
            have hMM1 : M2 ≤ M + 1 := by rw [HMM.out, HMM2.out, start_hi rfl hkn]; exact Nat.le_refl _
            have hMM2 : M + 1 ≤ M2 := by rw [HMM.out, HMM2.out, start_hi rfl hkn]; exact Nat.le_refl _
            have hat : w5.cell? ⟨gs, k0 + 1, none⟩ = some (.int .i64 (Pl.S f m (k0 + 1) : Nat)) := HBO.out.st.cell (by omega)
            have hatM : Pl.S f m (k0 + 1) ≤ M := by rw [HMM.out]; exact Pl.S_mono f m (by omega)
            have hnew : w5.cell? ⟨gm2, Pl.S f m (k0 + 1), none⟩ = some (.int .i64 (m : Int)) := by
              rw [HBO.out.me2.cell (by rw [← HMM2.out]; omega), same_at rfl HBO.out.pu2]
            have HAT : Hid (∀ p, p < M → (p < Pl.S f m (k0 + 1) → h2 p = h p) ∧ (Pl.S f m (k0 + 1) ≤ p → h2 (p + 1) = h p)) := by
              intro p hp
              exact ⟨fun h' => same_lo rfl HBO.out.pu HBO.out.pu2 h', fun h' => same_hi (n := n) rfl HBO.out.pu HBO.out.pu2 h' (by rw [← HMM.out]; exact hp)⟩
            generalize Pl.S f m (k0 + 1) = ta at hat hatM hnew HAT
            go_wp2
            go_loop [16] (fun jv => ∃ j : Nat, j ≤ n + 1 ∧ jv = .int .i64 j) (fun jv => n + 1 - (intOf jv).toNat)
            case atStart => exact ⟨0, by omega, rfl⟩
            case round =>
              obtain ⟨j, hj, rfl⟩ := hrel
              by_cases hlt3 : j ≤ n
              · have hSj := Pl.S_le f m j
                have c1 : w5.cell? ⟨gs, j, none⟩ = some (.int .i64 (Pl.S f m j : Nat)) := HBO.out.st.cell (by omega)
                by_cases hjk : k0 < j
                · have c2 : w5.cell? ⟨gs2, j, none⟩ = some (.int .i64 ((Pl.S f m j : Nat) + 1)) := by rw [HBO.out.st2.cell (by omega), start_hi rfl hjk]; simp
                  go_wp2
                  go_round
                  case rel => exact ⟨j + 1, by omega, by go_num⟩
                  case measure => simp [intOf]; omega
                · have c2 : w5.cell? ⟨gs2, j, none⟩ = some (.int .i64 (Pl.S f m j : Nat)) := by rw [HBO.out.st2.cell (by omega), start_lo rfl (by omega)]
                  go_wp2
                  go_round
                  case rel => exact ⟨j + 1, by omega, by go_num⟩
                  case measure => simp [intOf]; omega
              · have hMMb : ((M2 : Int) != (M : Int) + 1) = false := by rw [bne_eq_false_iff_eq]; omega
                go_wp2
                go_loopw [19] (fun jv wr => ∃ j q : Nat, j ≤ ta ∧ jv = .int .i64 j ∧ wr = w5.drewN q) (fun jv _ => ta - (intOf jv).toNat)
                case atStart => exact ⟨0, 0, by omega, rfl, rfl⟩
                case round =>
                  obtain ⟨j, q, hj, rfl, rfl⟩ := hrel
                  by_cases hlt4 : j < ta
                  · have e := (HAT.out j (by omega)).1 hlt4
                    have c1 : w5.cell? ⟨gm, j, none⟩ = some (.int .i64 (h j)) := HBO.out.me.cell (by rw [← HMM.out]; omega)
                    have c2 : w5.cell? ⟨gm2, j, none⟩ = some (.int .i64 (h j)) := by rw [HBO.out.me2.cell (by rw [← HMM2.out]; omega), e]
                    have i1 : (j : Int) < (M : Int) := by omega
                    have i2 : (j : Int) < (M2 : Int) := by omega
                    clear e
                    go_wp2
                    go_quiet (fail)
                    go_wp2
                    go_roundw
                    case rel => exact ⟨j + 1, q + nq, by omega, by go_num, by simp⟩
                    case measure => simp [intOf]; omega
                  · go_wp2
                    go_loopw [20] (fun jv wr => ∃ j q : Nat, ta ≤ j ∧ j ≤ M ∧ jv = .int .i64 ((j : Int) + 1) ∧ wr = w5.drewN q) (fun jv _ => M + 1 - (intOf jv).toNat)
                    case atStart => exact ⟨ta, q, by omega, by omega, rfl, rfl⟩
                    case round =>
                      obtain ⟨j, q, hj1, hj2, rfl, rfl⟩ := hrel
                      by_cases hlt5 : j < M
                      · have e := (HAT.out j hlt5).2 hj1
                        have c1 : w5.cell? ⟨gm, j, none⟩ = some (.int .i64 (h j)) := HBO.out.me.cell (by rw [← HMM.out]; omega)
                        have c2 : w5.cell? ⟨gm2, j + 1, none⟩ = some (.int .i64 (h j)) := by rw [HBO.out.me2.cell (by rw [← HMM2.out]; omega), e]
                        have i1 : (j : Int) < (M : Int) := by omega
                        have i2 : (j : Int) + 1 < (M2 : Int) := by omega
                        clear e
                        go_wp2
                        go_quiet (fail)
                        go_wp2
                        go_roundw
                        case rel => exact ⟨j + 1, q + nq, by omega, by omega, by go_num, by simp⟩
                        case measure => simp [intOf]; omega
                      · go_wp2
                        go_ret
                        exact ⟨rfl, below_drewN HB5.out q⟩

set_option maxHeartbeats 1000000 in
set_option maxRecDepth 100000 in
theorem walk_any (x : Int) (a : Option Addr) (m c : Nat) (f : Nat → Int) (z : Int) (w : World) (hnil : a = none → m = 0 ∧ c = 0) (hrow : Keys w a m f) :
    Calls Try.prog 4 #[.int .i64 x, .slice a m c, .int .i64 z] w fun e w' => e = .returned (.bool true) ∧ Below w.heap.size w w' := by
  by_cases hm : m ≤ 65536
  · by_cases h0 : x < 0
    · clear hnil hrow
      go_enter Try.func4, Try.ntmps4
      go_wp2
      go_ret
      exact ⟨rfl, Below.refl _ _⟩
    · by_cases h1 : 65536 < x
      · clear hnil hrow
        go_enter Try.func4, Try.ntmps4
        go_wp2
        go_ret
        exact ⟨rfl, Below.refl _ _⟩
      · by_cases h2 : z < -1
        · clear hnil hrow
          go_enter Try.func4, Try.ntmps4
          go_wp2
          go_ret
          exact ⟨rfl, Below.refl _ _⟩
        · by_cases h3 : x ≤ z
          · clear hnil hrow
            go_enter Try.func4, Try.ntmps4
            go_wp2
            go_ret
            exact ⟨rfl, Below.refl _ _⟩
          · obtain ⟨n, rfl⟩ := Int.eq_ofNat_of_zero_le (by omega : 0 ≤ x)
            exact walk_in n z a m c f w hnil hrow hm (by omega) (by omega) (by omega)
  · clear hnil hrow
    by_cases hm2 : m ≤ 1048576
    · go_enter Try.func4, Try.ntmps4
      go_wp2
      go_ret
      exact ⟨rfl, Below.refl _ _⟩
    · go_enter Try.func4, Try.ntmps4
      go_wp2
      go_ret
      exact ⟨rfl, Below.refl _ _⟩
end Go.Proofs.Qxb6601261a.fnGroupByAppendOneKey
