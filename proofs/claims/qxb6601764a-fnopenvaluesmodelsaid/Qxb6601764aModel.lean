/-
  THE WALK OF openValues's MODEL (13).
-/
import Derived.Test.Qxb6601764aValues
import Derived.Test.Qxb6601764aSteps
import Derived.Deep.CutRange
namespace Go.Proofs.Qxb6601764a
open Go.ChangeShapes Go.WideShapes Go.ChangeAt Go.RowKit

set_option maxHeartbeats 4000000 in
set_option maxRecDepth 100000 in
theorem modelOpen_some (ss : List ByteArray) (b off c0 : Nat) (w : World) (hb : b < w.heap.size) (hn : ss.length ≤ 65536) (ht : Pl.tot ss ss.length ≤ 1048576)
    (hc : ∀ j, (h : j < ss.length) → w.cell? ⟨b, off + j, none⟩ = some (.string ss[j])) :
    Calls Try.prog 13 #[.slice (some ⟨b, off, none⟩) ss.length c0] w fun e w' => e = .returned (.slice (some ⟨w.heap.size, 0, none⟩) ss.length ss.length) ∧
      w'.ownsRow w.heap.size 4 1 (.slice (some ⟨w.heap.size, 0, none⟩) ss.length ss.length) ss.length ((Pl.outs ss).map Value.bool) ∧ Below w.heap.size w w' := by
  obtain ⟨i4, hi4, hz0, hz1, hz2⟩ := info_parts Try.info4
  obtain ⟨n, hnn⟩ : ∃ n, n = ss.length := ⟨_, rfl⟩
  have HC : Hid (∀ j, (h : j < ss.length) → w.cell? ⟨b, off + j, none⟩ = some (.string ss[j])) := hc
  have HN : Hid (n = ss.length) := hnn
  rw [← hnn] at hn ⊢
  clear hc hnn
  have HT : Hid (Pl.tot ss ss.length ≤ 1048576) := ht
  clear ht
  go_enter Try.func13, Try.ntmps13
  go_wp2_with (first
    | (at_make; refine wpList_make_full _ rfl _ _ 25 rfl w.heap.size 4 i4 (.bool false) 1 Try.underlying25 hi4 hz0 hz1 _ _ _ _ n rfl rfl rfl rfl (by rw [hz2]; omega) (by unfold maxLen; omega) (Nat.le_refl _) ?_; intro w1 hown hgrow)
    | go_in)
  have HO : Hid (w1.ownsRow w.heap.size 4 1 (.slice (some ⟨w.heap.size, 0, none⟩) n n) n (mid (Pl.outs ss) n 0)) := by
    rw [mid_zero, ← toList_madeCells_one]
    have h := hown
    simp only [Value.cells, Nat.mul_one] at h
    exact h
  have HB1 : Hid (Below w.heap.size w w1) := (Below.refl _ _).grown hgrow (Nat.le_refl _) (fun k hk => by cases hk)
  clear hown hgrow hi4 hz0 hz1 hz2
  go_loopw [4, 5, 6] (fun dv qv iv wr => ∃ (i q t : Nat) (d qi : Int), i ≤ n ∧ iv = .int .i64 i ∧ dv = .int .i64 d ∧ qv = .int .u8 qi ∧ qi = q ∧ Pl.stt ss i = (d, q) ∧ t = Pl.tot ss i ∧ d ≤ t ∧ -(t : Int) ≤ d ∧
      wr.ownsRow w.heap.size 4 1 (.slice (some ⟨w.heap.size, 0, none⟩) n n) n (mid (Pl.outs ss) n i) ∧ Below w.heap.size w wr) (fun _ _ iv _ => n - (intOf iv).toNat)
  case atStart => exact ⟨0, 0, 0, 0, 0, by omega, rfl, rfl, rfl, rfl, Pl.stt_zero _, (Pl.tot_zero _).symm, by omega, by omega, HO.out, HB1.out⟩
  case round =>
    clear HO HB1
    obtain ⟨i, q0, t, d0, qi0, hin, rfl, rfl, rfl, hqi0, hst, htt, hd1, hd2, hown, hbel⟩ := hrel
    by_cases hlt : i < n
    · have hltS : i < ss.length := by rw [← HN.out]; exact hlt
      obtain ⟨s, hs⟩ : ∃ s, s = ss[i] := ⟨_, rfl⟩
      have hcs : wr.cell? ⟨b, off + i, none⟩ = some (.string s) := by rw [hs, hbel.cell (by exact hb)]; exact HC.out i hltS
      have hts : t + s.size ≤ 1048576 := by
        have h1 := Pl.tot_succ hltS
        have h2 := Pl.tot_le ss (i + 1) ss.length (by omega)
        have h3 := HT.out
        rw [hs]; omega
      obtain ⟨v, hsc⟩ : ∃ v, wr.cell? ⟨w.heap.size, i, none⟩ = some v := by
        have h := hown.cellAt i (by omega)
        have hl := mid_length (Pl.outs ss) n i (by rw [Pl.outs_length]; exact HN.out.symm) (by omega)
        rw [List.getElem?_eq_getElem (by omega)] at h
        exact ⟨_, h⟩
      have hsf : wr.frozen? ⟨w.heap.size, i, none⟩ = false := hown.frozenAt i
      have HTN : Hid (t + s.size = Pl.tot ss (i + 1)) := by rw [htt, hs]; exact (Pl.tot_succ hltS).symm
      obtain ⟨X0, hX0⟩ : ∃ X0, X0 = Pl.go (Pl.ini d0 q0) (Pl.bts s) := ⟨_, rfl⟩
      have HSN : Hid (Pl.stt ss (i + 1) = Pl.fin X0) := by
        rw [Pl.stt_succ hltS, hst, ← hs, hX0]
        rfl
      have HI : Hid (X0 = Pl.go (Pl.ini d0 q0) (Pl.bts s)) := hX0
      have HOW : Hid (wr.ownsRow w.heap.size 4 1 (.slice (some ⟨w.heap.size, 0, none⟩) n n) n (mid (Pl.outs ss) n i)) := hown
      have HBE : Hid (Below w.heap.size w wr) := hbel
      clear hs hst htt hown hbel hX0
      have HQ0 : Hid (qi0 = q0) := hqi0
      clear hqi0
      obtain ⟨st0, hst0⟩ : ∃ st0 : Nat, st0 = if q0 = 0 then 0 else 9 := ⟨_, rfl⟩
      have HI1 : Hid (Pl.go ⟨st0, 0, q0, d0⟩ ((Pl.bts s).drop 0) = X0) := by
        have e : Pl.ini d0 q0 = ⟨st0, 0, q0, d0⟩ := by rw [hst0]; rfl
        rw [← e]
        exact HI.out.symm
      have HST0 : Hid (st0 = if q0 = 0 then 0 else 9) := hst0
      have hst010 : st0 ≤ 9 := by rw [hst0]; split <;> omega
      clear HI hst0
      go_upto_if 26 with fail
      go_cut [8] from 15 to 117 (fun sv wx => (∃ zi : Int, zi = st0 ∧ sv = .int .i64 zi) ∧ wx = wr)
      case first =>
        by_cases hqz : qi0 = 0
        · go_wp2_with fail
          all_goals go_meet
          case rel => exact ⟨⟨0, by rw [HST0.out, if_pos (by have := HQ0.out; omega)]; rfl, rfl⟩, rfl⟩
        · go_wp2_with fail
          all_goals go_meet
          case rel => exact ⟨⟨9, by rw [HST0.out, if_neg (by have := HQ0.out; omega)]; rfl, rfl⟩, rfl⟩
      case rest =>
        obtain ⟨⟨zi0, hzi0, rfl⟩, rfl⟩ := hcut
        have HZ0 : Hid (zi0 = st0) := hzi0
        clear hzi0
        go_wp2
        go_loop [4, 5, 8, 9, 10] (fun dv qv sv rv jv => ∃ (k st run q : Nat) (d zi qi : Int), k ≤ s.size ∧ st ≤ 10 ∧ run ≤ k ∧ jv = .int .i64 k ∧ sv = .int .i64 zi ∧ zi = st ∧ rv = .int .i64 run ∧ qv = .int .u8 qi ∧ qi = q ∧ dv = .int .i64 d ∧ Pl.go ⟨st, run, q, d⟩ ((Pl.bts s).drop k) = X0 ∧ d ≤ (t : Int) + k ∧ -((t : Int) + k) ≤ d) (fun _ _ _ _ jv => s.size - (intOf jv).toNat)
        case atStart => exact ⟨0, st0, 0, q0, d0, _, _, by omega, by omega, by omega, rfl, rfl, HZ0.out, rfl, rfl, HQ0.out, rfl, HI1.out, by omega, by omega⟩
        case round =>
          obtain ⟨k, st, run, q, d, zi, qi, hks, hst10, hrun, rfl, rfl, hzi, rfl, rfl, hqi, rfl, hX, he1, he2⟩ := hrel
          have HX : Hid (Pl.go ⟨st, run, q, d⟩ ((Pl.bts s).drop k) = X0) := hX
          have HQ : Hid (qi = q) := hqi
          clear hX hqi HI1
          by_cases hkl : k < s.size
          · have HK : Hid (Pl.bt s k = s[k].toNat) := Pl.bt_lt hkl
            rcases (show st = 0 ∨ st = 1 ∨ st = 2 ∨ st = 3 ∨ st = 4 ∨ st = 5 ∨ st = 6 ∨ st = 7 ∨ st = 8 ∨ st = 9 ∨ st = 10 by omega) with e | e | e | e | e | e | e | e | e | e | e
            · subst e
              obtain rfl : zi = 0 := by omega
              clear hzi
              by_cases h35 : (s[k].toNat : Int) = 35
              · as_aux_lemma =>
                  have HS : Hid (Pl.go ⟨1, run, q, d⟩ ((Pl.bts s).drop (k + 1)) = X0) := by
                    have hbt := HK.out
                    have hqq := HQ.out
                    exact Pl.go_next hkl HX.out (Pl.s0.trans (Pl.n35 (by omega)))
                  go_wp2
                  go_round
                  case rel => exact ⟨k + 1, 1, run, q, d, _, _, by omega, by omega, by omega, by go_num, rfl, by omega, by go_num, rfl, by first | exact HQ.out | omega, by go_num, HS.out, by omega, by omega⟩
                  case measure => simp [intOf]; omega
              · by_cases h34 : (s[k].toNat : Int) = 34
                · as_aux_lemma =>
                    have HS : Hid (Pl.go ⟨2, run, q, d⟩ ((Pl.bts s).drop (k + 1)) = X0) := by
                      have hbt := HK.out
                      have hqq := HQ.out
                      exact Pl.go_next hkl HX.out (Pl.s0.trans (Pl.n34 (by omega)))
                    go_wp2
                    go_round
                    case rel => exact ⟨k + 1, 2, run, q, d, _, _, by omega, by omega, by omega, by go_num, rfl, by omega, by go_num, rfl, by first | exact HQ.out | omega, by go_num, HS.out, by omega, by omega⟩
                    case measure => simp [intOf]; omega
                · by_cases h39 : (s[k].toNat : Int) = 39
                  · as_aux_lemma =>
                      have HS : Hid (Pl.go ⟨6, run, q, d⟩ ((Pl.bts s).drop (k + 1)) = X0) := by
                        have hbt := HK.out
                        have hqq := HQ.out
                        exact Pl.go_next hkl HX.out (Pl.s0.trans (Pl.n39 (by omega)))
                      go_wp2
                      go_round
                      case rel => exact ⟨k + 1, 6, run, q, d, _, _, by omega, by omega, by omega, by go_num, rfl, by omega, by go_num, rfl, by first | exact HQ.out | omega, by go_num, HS.out, by omega, by omega⟩
                      case measure => simp [intOf]; omega
                  · by_cases h91 : (s[k].toNat : Int) = 91
                    · as_aux_lemma =>
                        have HS : Hid (Pl.go ⟨0, run, q, d + 1⟩ ((Pl.bts s).drop (k + 1)) = X0) := by
                          have hbt := HK.out
                          have hqq := HQ.out
                          exact Pl.go_next hkl HX.out (Pl.s0.trans (Pl.nup (by omega)))
                        go_wp2
                        go_round
                        case rel => exact ⟨k + 1, 0, run, q, d + 1, _, _, by omega, by omega, by omega, by go_num, rfl, by omega, by go_num, rfl, by first | exact HQ.out | omega, by go_num, HS.out, by omega, by omega⟩
                        case measure => simp [intOf]; omega
                    · by_cases h123 : (s[k].toNat : Int) = 123
                      · as_aux_lemma =>
                          have HS : Hid (Pl.go ⟨0, run, q, d + 1⟩ ((Pl.bts s).drop (k + 1)) = X0) := by
                            have hbt := HK.out
                            have hqq := HQ.out
                            exact Pl.go_next hkl HX.out (Pl.s0.trans (Pl.nup (by omega)))
                          go_wp2
                          go_round
                          case rel => exact ⟨k + 1, 0, run, q, d + 1, _, _, by omega, by omega, by omega, by go_num, rfl, by omega, by go_num, rfl, by first | exact HQ.out | omega, by go_num, HS.out, by omega, by omega⟩
                          case measure => simp [intOf]; omega
                      · by_cases h93 : (s[k].toNat : Int) = 93
                        · as_aux_lemma =>
                            have HS : Hid (Pl.go ⟨0, run, q, d - 1⟩ ((Pl.bts s).drop (k + 1)) = X0) := by
                              have hbt := HK.out
                              have hqq := HQ.out
                              exact Pl.go_next hkl HX.out (Pl.s0.trans (Pl.ndn (by omega)))
                            go_wp2
                            go_round
                            case rel => exact ⟨k + 1, 0, run, q, d - 1, _, _, by omega, by omega, by omega, by go_num, rfl, by omega, by go_num, rfl, by first | exact HQ.out | omega, by go_num, HS.out, by omega, by omega⟩
                            case measure => simp [intOf]; omega
                        · by_cases h125 : (s[k].toNat : Int) = 125
                          · as_aux_lemma =>
                              have HS : Hid (Pl.go ⟨0, run, q, d - 1⟩ ((Pl.bts s).drop (k + 1)) = X0) := by
                                have hbt := HK.out
                                have hqq := HQ.out
                                exact Pl.go_next hkl HX.out (Pl.s0.trans (Pl.ndn (by omega)))
                              go_wp2
                              go_round
                              case rel => exact ⟨k + 1, 0, run, q, d - 1, _, _, by omega, by omega, by omega, by go_num, rfl, by omega, by go_num, rfl, by first | exact HQ.out | omega, by go_num, HS.out, by omega, by omega⟩
                              case measure => simp [intOf]; omega
                          · as_aux_lemma =>
                              have HS : Hid (Pl.go ⟨0, run, q, d⟩ ((Pl.bts s).drop (k + 1)) = X0) := by
                                have hbt := HK.out
                                have hqq := HQ.out
                                exact Pl.go_next hkl HX.out (Pl.s0.trans (Pl.nsk (by omega)))
                              go_wp2
                              go_round
                              case rel => exact ⟨k + 1, 0, run, q, d, _, _, by omega, by omega, by omega, by go_num, rfl, by omega, by go_num, rfl, by first | exact HQ.out | omega, by go_num, HS.out, by omega, by omega⟩
                              case measure => simp [intOf]; omega
            · subst e
              obtain rfl : zi = 1 := by omega
              clear hzi
              as_aux_lemma =>
                have HS : Hid (Pl.go ⟨1, run, q, d⟩ ((Pl.bts s).drop (k + 1)) = X0) := by
                  have hbt := HK.out
                  have hqq := HQ.out
                  exact Pl.go_next hkl HX.out (Pl.s1)
                go_wp2
                go_round
                case rel => exact ⟨k + 1, 1, run, q, d, _, _, by omega, by omega, by omega, by go_num, rfl, by omega, by go_num, rfl, by first | exact HQ.out | omega, by go_num, HS.out, by omega, by omega⟩
                case measure => simp [intOf]; omega
            · subst e
              obtain rfl : zi = 2 := by omega
              clear hzi
              by_cases h34 : (s[k].toNat : Int) = 34
              · as_aux_lemma =>
                  have HS : Hid (Pl.go ⟨5, run, q, d⟩ ((Pl.bts s).drop (k + 1)) = X0) := by
                    have hbt := HK.out
                    have hqq := HQ.out
                    exact Pl.go_next hkl HX.out (Pl.s2a (by omega))
                  go_wp2
                  go_round
                  case rel => exact ⟨k + 1, 5, run, q, d, _, _, by omega, by omega, by omega, by go_num, rfl, by omega, by go_num, rfl, by first | exact HQ.out | omega, by go_num, HS.out, by omega, by omega⟩
                  case measure => simp [intOf]; omega
              · by_cases h92 : (s[k].toNat : Int) = 92
                · as_aux_lemma =>
                    have HS : Hid (Pl.go ⟨4, run, q, d⟩ ((Pl.bts s).drop (k + 1)) = X0) := by
                      have hbt := HK.out
                      have hqq := HQ.out
                      exact Pl.go_next hkl HX.out (Pl.s2b (by omega))
                    go_wp2
                    go_round
                    case rel => exact ⟨k + 1, 4, run, q, d, _, _, by omega, by omega, by omega, by go_num, rfl, by omega, by go_num, rfl, by first | exact HQ.out | omega, by go_num, HS.out, by omega, by omega⟩
                    case measure => simp [intOf]; omega
                · as_aux_lemma =>
                    have HS : Hid (Pl.go ⟨3, run, q, d⟩ ((Pl.bts s).drop (k + 1)) = X0) := by
                      have hbt := HK.out
                      have hqq := HQ.out
                      exact Pl.go_next hkl HX.out (Pl.s2c (by omega))
                    go_wp2
                    go_round
                    case rel => exact ⟨k + 1, 3, run, q, d, _, _, by omega, by omega, by omega, by go_num, rfl, by omega, by go_num, rfl, by first | exact HQ.out | omega, by go_num, HS.out, by omega, by omega⟩
                    case measure => simp [intOf]; omega
            · subst e
              obtain rfl : zi = 3 := by omega
              clear hzi
              by_cases h34 : (s[k].toNat : Int) = 34
              · as_aux_lemma =>
                  have HS : Hid (Pl.go ⟨0, run, q, d⟩ ((Pl.bts s).drop (k + 1)) = X0) := by
                    have hbt := HK.out
                    have hqq := HQ.out
                    exact Pl.go_next hkl HX.out (Pl.s3a (by omega))
                  go_wp2
                  go_round
                  case rel => exact ⟨k + 1, 0, run, q, d, _, _, by omega, by omega, by omega, by go_num, rfl, by omega, by go_num, rfl, by first | exact HQ.out | omega, by go_num, HS.out, by omega, by omega⟩
                  case measure => simp [intOf]; omega
              · by_cases h92 : (s[k].toNat : Int) = 92
                · as_aux_lemma =>
                    have HS : Hid (Pl.go ⟨4, run, q, d⟩ ((Pl.bts s).drop (k + 1)) = X0) := by
                      have hbt := HK.out
                      have hqq := HQ.out
                      exact Pl.go_next hkl HX.out (Pl.s3b (by omega))
                    go_wp2
                    go_round
                    case rel => exact ⟨k + 1, 4, run, q, d, _, _, by omega, by omega, by omega, by go_num, rfl, by omega, by go_num, rfl, by first | exact HQ.out | omega, by go_num, HS.out, by omega, by omega⟩
                    case measure => simp [intOf]; omega
                · as_aux_lemma =>
                    have HS : Hid (Pl.go ⟨3, run, q, d⟩ ((Pl.bts s).drop (k + 1)) = X0) := by
                      have hbt := HK.out
                      have hqq := HQ.out
                      exact Pl.go_next hkl HX.out (Pl.s3c (by omega))
                    go_wp2
                    go_round
                    case rel => exact ⟨k + 1, 3, run, q, d, _, _, by omega, by omega, by omega, by go_num, rfl, by omega, by go_num, rfl, by first | exact HQ.out | omega, by go_num, HS.out, by omega, by omega⟩
                    case measure => simp [intOf]; omega
            · subst e
              obtain rfl : zi = 4 := by omega
              clear hzi
              as_aux_lemma =>
                have HS : Hid (Pl.go ⟨3, run, q, d⟩ ((Pl.bts s).drop (k + 1)) = X0) := by
                  have hbt := HK.out
                  have hqq := HQ.out
                  exact Pl.go_next hkl HX.out (Pl.s4)
                go_wp2
                go_round
                case rel => exact ⟨k + 1, 3, run, q, d, _, _, by omega, by omega, by omega, by go_num, rfl, by omega, by go_num, rfl, by first | exact HQ.out | omega, by go_num, HS.out, by omega, by omega⟩
                case measure => simp [intOf]; omega
            · subst e
              obtain rfl : zi = 5 := by omega
              clear hzi
              by_cases h34 : (s[k].toNat : Int) = 34
              · as_aux_lemma =>
                  have HS : Hid (Pl.go ⟨9, 0, 34, d⟩ ((Pl.bts s).drop (k + 1)) = X0) := by
                    have hbt := HK.out
                    have hqq := HQ.out
                    exact Pl.go_next hkl HX.out (Pl.s5a (by omega))
                  go_wp2
                  go_round
                  case rel => exact ⟨k + 1, 9, 0, 34, d, _, _, by omega, by omega, by omega, by go_num, rfl, by omega, by go_num, rfl, by first | exact HQ.out | omega, by go_num, HS.out, by omega, by omega⟩
                  case measure => simp [intOf]; omega
              · by_cases h35 : (s[k].toNat : Int) = 35
                · as_aux_lemma =>
                    have HS : Hid (Pl.go ⟨1, run, q, d⟩ ((Pl.bts s).drop (k + 1)) = X0) := by
                      have hbt := HK.out
                      have hqq := HQ.out
                      exact Pl.go_next hkl HX.out ((Pl.s5n (by omega)).trans (Pl.n35 (by omega)))
                    go_wp2
                    go_round
                    case rel => exact ⟨k + 1, 1, run, q, d, _, _, by omega, by omega, by omega, by go_num, rfl, by omega, by go_num, rfl, by first | exact HQ.out | omega, by go_num, HS.out, by omega, by omega⟩
                    case measure => simp [intOf]; omega
                · by_cases h39 : (s[k].toNat : Int) = 39
                  · as_aux_lemma =>
                      have HS : Hid (Pl.go ⟨6, run, q, d⟩ ((Pl.bts s).drop (k + 1)) = X0) := by
                        have hbt := HK.out
                        have hqq := HQ.out
                        exact Pl.go_next hkl HX.out ((Pl.s5n (by omega)).trans (Pl.n39 (by omega)))
                      go_wp2
                      go_round
                      case rel => exact ⟨k + 1, 6, run, q, d, _, _, by omega, by omega, by omega, by go_num, rfl, by omega, by go_num, rfl, by first | exact HQ.out | omega, by go_num, HS.out, by omega, by omega⟩
                      case measure => simp [intOf]; omega
                  · by_cases h91 : (s[k].toNat : Int) = 91
                    · as_aux_lemma =>
                        have HS : Hid (Pl.go ⟨0, run, q, d + 1⟩ ((Pl.bts s).drop (k + 1)) = X0) := by
                          have hbt := HK.out
                          have hqq := HQ.out
                          exact Pl.go_next hkl HX.out ((Pl.s5n (by omega)).trans (Pl.nup (by omega)))
                        go_wp2
                        go_round
                        case rel => exact ⟨k + 1, 0, run, q, d + 1, _, _, by omega, by omega, by omega, by go_num, rfl, by omega, by go_num, rfl, by first | exact HQ.out | omega, by go_num, HS.out, by omega, by omega⟩
                        case measure => simp [intOf]; omega
                    · by_cases h123 : (s[k].toNat : Int) = 123
                      · as_aux_lemma =>
                          have HS : Hid (Pl.go ⟨0, run, q, d + 1⟩ ((Pl.bts s).drop (k + 1)) = X0) := by
                            have hbt := HK.out
                            have hqq := HQ.out
                            exact Pl.go_next hkl HX.out ((Pl.s5n (by omega)).trans (Pl.nup (by omega)))
                          go_wp2
                          go_round
                          case rel => exact ⟨k + 1, 0, run, q, d + 1, _, _, by omega, by omega, by omega, by go_num, rfl, by omega, by go_num, rfl, by first | exact HQ.out | omega, by go_num, HS.out, by omega, by omega⟩
                          case measure => simp [intOf]; omega
                      · by_cases h93 : (s[k].toNat : Int) = 93
                        · as_aux_lemma =>
                            have HS : Hid (Pl.go ⟨0, run, q, d - 1⟩ ((Pl.bts s).drop (k + 1)) = X0) := by
                              have hbt := HK.out
                              have hqq := HQ.out
                              exact Pl.go_next hkl HX.out ((Pl.s5n (by omega)).trans (Pl.ndn (by omega)))
                            go_wp2
                            go_round
                            case rel => exact ⟨k + 1, 0, run, q, d - 1, _, _, by omega, by omega, by omega, by go_num, rfl, by omega, by go_num, rfl, by first | exact HQ.out | omega, by go_num, HS.out, by omega, by omega⟩
                            case measure => simp [intOf]; omega
                        · by_cases h125 : (s[k].toNat : Int) = 125
                          · as_aux_lemma =>
                              have HS : Hid (Pl.go ⟨0, run, q, d - 1⟩ ((Pl.bts s).drop (k + 1)) = X0) := by
                                have hbt := HK.out
                                have hqq := HQ.out
                                exact Pl.go_next hkl HX.out ((Pl.s5n (by omega)).trans (Pl.ndn (by omega)))
                              go_wp2
                              go_round
                              case rel => exact ⟨k + 1, 0, run, q, d - 1, _, _, by omega, by omega, by omega, by go_num, rfl, by omega, by go_num, rfl, by first | exact HQ.out | omega, by go_num, HS.out, by omega, by omega⟩
                              case measure => simp [intOf]; omega
                          · as_aux_lemma =>
                              have HS : Hid (Pl.go ⟨0, run, q, d⟩ ((Pl.bts s).drop (k + 1)) = X0) := by
                                have hbt := HK.out
                                have hqq := HQ.out
                                exact Pl.go_next hkl HX.out ((Pl.s5n (by omega)).trans (Pl.nsk (by omega)))
                              go_wp2
                              go_round
                              case rel => exact ⟨k + 1, 0, run, q, d, _, _, by omega, by omega, by omega, by go_num, rfl, by omega, by go_num, rfl, by first | exact HQ.out | omega, by go_num, HS.out, by omega, by omega⟩
                              case measure => simp [intOf]; omega
            · subst e
              obtain rfl : zi = 6 := by omega
              clear hzi
              by_cases h39 : (s[k].toNat : Int) = 39
              · as_aux_lemma =>
                  have HS : Hid (Pl.go ⟨8, run, q, d⟩ ((Pl.bts s).drop (k + 1)) = X0) := by
                    have hbt := HK.out
                    have hqq := HQ.out
                    exact Pl.go_next hkl HX.out (Pl.s6a (by omega))
                  go_wp2
                  go_round
                  case rel => exact ⟨k + 1, 8, run, q, d, _, _, by omega, by omega, by omega, by go_num, rfl, by omega, by go_num, rfl, by first | exact HQ.out | omega, by go_num, HS.out, by omega, by omega⟩
                  case measure => simp [intOf]; omega
              · as_aux_lemma =>
                  have HS : Hid (Pl.go ⟨7, run, q, d⟩ ((Pl.bts s).drop (k + 1)) = X0) := by
                    have hbt := HK.out
                    have hqq := HQ.out
                    exact Pl.go_next hkl HX.out (Pl.s6b (by omega))
                  go_wp2
                  go_round
                  case rel => exact ⟨k + 1, 7, run, q, d, _, _, by omega, by omega, by omega, by go_num, rfl, by omega, by go_num, rfl, by first | exact HQ.out | omega, by go_num, HS.out, by omega, by omega⟩
                  case measure => simp [intOf]; omega
            · subst e
              obtain rfl : zi = 7 := by omega
              clear hzi
              by_cases h39 : (s[k].toNat : Int) = 39
              · as_aux_lemma =>
                  have HS : Hid (Pl.go ⟨0, run, q, d⟩ ((Pl.bts s).drop (k + 1)) = X0) := by
                    have hbt := HK.out
                    have hqq := HQ.out
                    exact Pl.go_next hkl HX.out (Pl.s7a (by omega))
                  go_wp2
                  go_round
                  case rel => exact ⟨k + 1, 0, run, q, d, _, _, by omega, by omega, by omega, by go_num, rfl, by omega, by go_num, rfl, by first | exact HQ.out | omega, by go_num, HS.out, by omega, by omega⟩
                  case measure => simp [intOf]; omega
              · as_aux_lemma =>
                  have HS : Hid (Pl.go ⟨7, run, q, d⟩ ((Pl.bts s).drop (k + 1)) = X0) := by
                    have hbt := HK.out
                    have hqq := HQ.out
                    exact Pl.go_next hkl HX.out (Pl.s7b (by omega))
                  go_wp2
                  go_round
                  case rel => exact ⟨k + 1, 7, run, q, d, _, _, by omega, by omega, by omega, by go_num, rfl, by omega, by go_num, rfl, by first | exact HQ.out | omega, by go_num, HS.out, by omega, by omega⟩
                  case measure => simp [intOf]; omega
            · subst e
              obtain rfl : zi = 8 := by omega
              clear hzi
              by_cases h39 : (s[k].toNat : Int) = 39
              · as_aux_lemma =>
                  have HS : Hid (Pl.go ⟨9, 0, 39, d⟩ ((Pl.bts s).drop (k + 1)) = X0) := by
                    have hbt := HK.out
                    have hqq := HQ.out
                    exact Pl.go_next hkl HX.out (Pl.s8a (by omega))
                  go_wp2
                  go_round
                  case rel => exact ⟨k + 1, 9, 0, 39, d, _, _, by omega, by omega, by omega, by go_num, rfl, by omega, by go_num, rfl, by first | exact HQ.out | omega, by go_num, HS.out, by omega, by omega⟩
                  case measure => simp [intOf]; omega
              · by_cases h35 : (s[k].toNat : Int) = 35
                · as_aux_lemma =>
                    have HS : Hid (Pl.go ⟨1, run, q, d⟩ ((Pl.bts s).drop (k + 1)) = X0) := by
                      have hbt := HK.out
                      have hqq := HQ.out
                      exact Pl.go_next hkl HX.out ((Pl.s8n (by omega)).trans (Pl.n35 (by omega)))
                    go_wp2
                    go_round
                    case rel => exact ⟨k + 1, 1, run, q, d, _, _, by omega, by omega, by omega, by go_num, rfl, by omega, by go_num, rfl, by first | exact HQ.out | omega, by go_num, HS.out, by omega, by omega⟩
                    case measure => simp [intOf]; omega
                · by_cases h34 : (s[k].toNat : Int) = 34
                  · as_aux_lemma =>
                      have HS : Hid (Pl.go ⟨2, run, q, d⟩ ((Pl.bts s).drop (k + 1)) = X0) := by
                        have hbt := HK.out
                        have hqq := HQ.out
                        exact Pl.go_next hkl HX.out ((Pl.s8n (by omega)).trans (Pl.n34 (by omega)))
                      go_wp2
                      go_round
                      case rel => exact ⟨k + 1, 2, run, q, d, _, _, by omega, by omega, by omega, by go_num, rfl, by omega, by go_num, rfl, by first | exact HQ.out | omega, by go_num, HS.out, by omega, by omega⟩
                      case measure => simp [intOf]; omega
                  · by_cases h91 : (s[k].toNat : Int) = 91
                    · as_aux_lemma =>
                        have HS : Hid (Pl.go ⟨0, run, q, d + 1⟩ ((Pl.bts s).drop (k + 1)) = X0) := by
                          have hbt := HK.out
                          have hqq := HQ.out
                          exact Pl.go_next hkl HX.out ((Pl.s8n (by omega)).trans (Pl.nup (by omega)))
                        go_wp2
                        go_round
                        case rel => exact ⟨k + 1, 0, run, q, d + 1, _, _, by omega, by omega, by omega, by go_num, rfl, by omega, by go_num, rfl, by first | exact HQ.out | omega, by go_num, HS.out, by omega, by omega⟩
                        case measure => simp [intOf]; omega
                    · by_cases h123 : (s[k].toNat : Int) = 123
                      · as_aux_lemma =>
                          have HS : Hid (Pl.go ⟨0, run, q, d + 1⟩ ((Pl.bts s).drop (k + 1)) = X0) := by
                            have hbt := HK.out
                            have hqq := HQ.out
                            exact Pl.go_next hkl HX.out ((Pl.s8n (by omega)).trans (Pl.nup (by omega)))
                          go_wp2
                          go_round
                          case rel => exact ⟨k + 1, 0, run, q, d + 1, _, _, by omega, by omega, by omega, by go_num, rfl, by omega, by go_num, rfl, by first | exact HQ.out | omega, by go_num, HS.out, by omega, by omega⟩
                          case measure => simp [intOf]; omega
                      · by_cases h93 : (s[k].toNat : Int) = 93
                        · as_aux_lemma =>
                            have HS : Hid (Pl.go ⟨0, run, q, d - 1⟩ ((Pl.bts s).drop (k + 1)) = X0) := by
                              have hbt := HK.out
                              have hqq := HQ.out
                              exact Pl.go_next hkl HX.out ((Pl.s8n (by omega)).trans (Pl.ndn (by omega)))
                            go_wp2
                            go_round
                            case rel => exact ⟨k + 1, 0, run, q, d - 1, _, _, by omega, by omega, by omega, by go_num, rfl, by omega, by go_num, rfl, by first | exact HQ.out | omega, by go_num, HS.out, by omega, by omega⟩
                            case measure => simp [intOf]; omega
                        · by_cases h125 : (s[k].toNat : Int) = 125
                          · as_aux_lemma =>
                              have HS : Hid (Pl.go ⟨0, run, q, d - 1⟩ ((Pl.bts s).drop (k + 1)) = X0) := by
                                have hbt := HK.out
                                have hqq := HQ.out
                                exact Pl.go_next hkl HX.out ((Pl.s8n (by omega)).trans (Pl.ndn (by omega)))
                              go_wp2
                              go_round
                              case rel => exact ⟨k + 1, 0, run, q, d - 1, _, _, by omega, by omega, by omega, by go_num, rfl, by omega, by go_num, rfl, by first | exact HQ.out | omega, by go_num, HS.out, by omega, by omega⟩
                              case measure => simp [intOf]; omega
                          · as_aux_lemma =>
                              have HS : Hid (Pl.go ⟨0, run, q, d⟩ ((Pl.bts s).drop (k + 1)) = X0) := by
                                have hbt := HK.out
                                have hqq := HQ.out
                                exact Pl.go_next hkl HX.out ((Pl.s8n (by omega)).trans (Pl.nsk (by omega)))
                              go_wp2
                              go_round
                              case rel => exact ⟨k + 1, 0, run, q, d, _, _, by omega, by omega, by omega, by go_num, rfl, by omega, by go_num, rfl, by first | exact HQ.out | omega, by go_num, HS.out, by omega, by omega⟩
                              case measure => simp [intOf]; omega
            · subst e
              obtain rfl : zi = 9 := by omega
              clear hzi
              by_cases hbq : (s[k].toNat : Int) = qi
              · as_aux_lemma =>
                  have HS : Hid (Pl.go ⟨9, run + 1, q, d⟩ ((Pl.bts s).drop (k + 1)) = X0) := by
                    have hbt := HK.out
                    have hqq := HQ.out
                    exact Pl.go_next hkl HX.out (Pl.s9a (by omega))
                  go_wp2
                  go_round
                  case rel => exact ⟨k + 1, 9, run + 1, q, d, _, _, by omega, by omega, by omega, by go_num, rfl, by omega, by go_num, rfl, by first | exact HQ.out | omega, by go_num, HS.out, by omega, by omega⟩
                  case measure => simp [intOf]; omega
              · by_cases h3 : run < 3
                · by_cases hq34 : qi = 34
                  · subst hq34
                    by_cases h92 : (s[k].toNat : Int) = 92
                    · as_aux_lemma =>
                        have HS : Hid (Pl.go ⟨10, 0, q, d⟩ ((Pl.bts s).drop (k + 1)) = X0) := by
                          have hbt := HK.out
                          have hqq := HQ.out
                          exact Pl.go_next hkl HX.out (Pl.s9e (by omega) h3 (by omega))
                        go_wp2
                        go_round
                        case rel => exact ⟨k + 1, 10, 0, q, d, _, _, by omega, by omega, by omega, by go_num, rfl, by omega, by go_num, rfl, by first | exact HQ.out | omega, by go_num, HS.out, by omega, by omega⟩
                        case measure => simp [intOf]; omega
                    · as_aux_lemma =>
                        have HS : Hid (Pl.go ⟨9, 0, q, d⟩ ((Pl.bts s).drop (k + 1)) = X0) := by
                          have hbt := HK.out
                          have hqq := HQ.out
                          exact Pl.go_next hkl HX.out (Pl.s9s (by omega) h3 (by omega))
                        go_wp2
                        go_round
                        case rel => exact ⟨k + 1, 9, 0, q, d, _, _, by omega, by omega, by omega, by go_num, rfl, by omega, by go_num, rfl, by first | exact HQ.out | omega, by go_num, HS.out, by omega, by omega⟩
                        case measure => simp [intOf]; omega
                  · have hqb : (qi == (34 : Int)) = false := beq_eq_false_iff_ne.2 hq34
                    as_aux_lemma =>
                      have HS : Hid (Pl.go ⟨9, 0, q, d⟩ ((Pl.bts s).drop (k + 1)) = X0) := by
                        have hbt := HK.out
                        have hqq := HQ.out
                        exact Pl.go_next hkl HX.out (Pl.s9s (by omega) h3 (by omega))
                      go_wp2
                      go_round
                      case rel => exact ⟨k + 1, 9, 0, q, d, _, _, by omega, by omega, by omega, by go_num, rfl, by omega, by go_num, rfl, by first | exact HQ.out | omega, by go_num, HS.out, by omega, by omega⟩
                      case measure => simp [intOf]; omega
                · by_cases h35 : (s[k].toNat : Int) = 35
                  · as_aux_lemma =>
                      have HS : Hid (Pl.go ⟨1, 0, 0, d⟩ ((Pl.bts s).drop (k + 1)) = X0) := by
                        have hbt := HK.out
                        have hqq := HQ.out
                        exact Pl.go_next hkl HX.out ((Pl.s9n (by omega) h3).trans (Pl.n35 (by omega)))
                      go_wp2
                      go_round
                      case rel => exact ⟨k + 1, 1, 0, 0, d, _, _, by omega, by omega, by omega, by go_num, rfl, by omega, by go_num, rfl, by first | exact HQ.out | omega, by go_num, HS.out, by omega, by omega⟩
                      case measure => simp [intOf]; omega
                  · by_cases h34 : (s[k].toNat : Int) = 34
                    · as_aux_lemma =>
                        have HS : Hid (Pl.go ⟨2, 0, 0, d⟩ ((Pl.bts s).drop (k + 1)) = X0) := by
                          have hbt := HK.out
                          have hqq := HQ.out
                          exact Pl.go_next hkl HX.out ((Pl.s9n (by omega) h3).trans (Pl.n34 (by omega)))
                        go_wp2
                        go_round
                        case rel => exact ⟨k + 1, 2, 0, 0, d, _, _, by omega, by omega, by omega, by go_num, rfl, by omega, by go_num, rfl, by first | exact HQ.out | omega, by go_num, HS.out, by omega, by omega⟩
                        case measure => simp [intOf]; omega
                    · by_cases h39 : (s[k].toNat : Int) = 39
                      · as_aux_lemma =>
                          have HS : Hid (Pl.go ⟨6, 0, 0, d⟩ ((Pl.bts s).drop (k + 1)) = X0) := by
                            have hbt := HK.out
                            have hqq := HQ.out
                            exact Pl.go_next hkl HX.out ((Pl.s9n (by omega) h3).trans (Pl.n39 (by omega)))
                          go_wp2
                          go_round
                          case rel => exact ⟨k + 1, 6, 0, 0, d, _, _, by omega, by omega, by omega, by go_num, rfl, by omega, by go_num, rfl, by first | exact HQ.out | omega, by go_num, HS.out, by omega, by omega⟩
                          case measure => simp [intOf]; omega
                      · by_cases h91 : (s[k].toNat : Int) = 91
                        · as_aux_lemma =>
                            have HS : Hid (Pl.go ⟨0, 0, 0, d + 1⟩ ((Pl.bts s).drop (k + 1)) = X0) := by
                              have hbt := HK.out
                              have hqq := HQ.out
                              exact Pl.go_next hkl HX.out ((Pl.s9n (by omega) h3).trans (Pl.nup (by omega)))
                            go_wp2
                            go_round
                            case rel => exact ⟨k + 1, 0, 0, 0, d + 1, _, _, by omega, by omega, by omega, by go_num, rfl, by omega, by go_num, rfl, by first | exact HQ.out | omega, by go_num, HS.out, by omega, by omega⟩
                            case measure => simp [intOf]; omega
                        · by_cases h123 : (s[k].toNat : Int) = 123
                          · as_aux_lemma =>
                              have HS : Hid (Pl.go ⟨0, 0, 0, d + 1⟩ ((Pl.bts s).drop (k + 1)) = X0) := by
                                have hbt := HK.out
                                have hqq := HQ.out
                                exact Pl.go_next hkl HX.out ((Pl.s9n (by omega) h3).trans (Pl.nup (by omega)))
                              go_wp2
                              go_round
                              case rel => exact ⟨k + 1, 0, 0, 0, d + 1, _, _, by omega, by omega, by omega, by go_num, rfl, by omega, by go_num, rfl, by first | exact HQ.out | omega, by go_num, HS.out, by omega, by omega⟩
                              case measure => simp [intOf]; omega
                          · by_cases h93 : (s[k].toNat : Int) = 93
                            · as_aux_lemma =>
                                have HS : Hid (Pl.go ⟨0, 0, 0, d - 1⟩ ((Pl.bts s).drop (k + 1)) = X0) := by
                                  have hbt := HK.out
                                  have hqq := HQ.out
                                  exact Pl.go_next hkl HX.out ((Pl.s9n (by omega) h3).trans (Pl.ndn (by omega)))
                                go_wp2
                                go_round
                                case rel => exact ⟨k + 1, 0, 0, 0, d - 1, _, _, by omega, by omega, by omega, by go_num, rfl, by omega, by go_num, rfl, by first | exact HQ.out | omega, by go_num, HS.out, by omega, by omega⟩
                                case measure => simp [intOf]; omega
                            · by_cases h125 : (s[k].toNat : Int) = 125
                              · as_aux_lemma =>
                                  have HS : Hid (Pl.go ⟨0, 0, 0, d - 1⟩ ((Pl.bts s).drop (k + 1)) = X0) := by
                                    have hbt := HK.out
                                    have hqq := HQ.out
                                    exact Pl.go_next hkl HX.out ((Pl.s9n (by omega) h3).trans (Pl.ndn (by omega)))
                                  go_wp2
                                  go_round
                                  case rel => exact ⟨k + 1, 0, 0, 0, d - 1, _, _, by omega, by omega, by omega, by go_num, rfl, by omega, by go_num, rfl, by first | exact HQ.out | omega, by go_num, HS.out, by omega, by omega⟩
                                  case measure => simp [intOf]; omega
                              · as_aux_lemma =>
                                  have HS : Hid (Pl.go ⟨0, 0, 0, d⟩ ((Pl.bts s).drop (k + 1)) = X0) := by
                                    have hbt := HK.out
                                    have hqq := HQ.out
                                    exact Pl.go_next hkl HX.out ((Pl.s9n (by omega) h3).trans (Pl.nsk (by omega)))
                                  go_wp2
                                  go_round
                                  case rel => exact ⟨k + 1, 0, 0, 0, d, _, _, by omega, by omega, by omega, by go_num, rfl, by omega, by go_num, rfl, by first | exact HQ.out | omega, by go_num, HS.out, by omega, by omega⟩
                                  case measure => simp [intOf]; omega
            · subst e
              obtain rfl : zi = 10 := by omega
              clear hzi
              as_aux_lemma =>
                have HS : Hid (Pl.go ⟨9, run, q, d⟩ ((Pl.bts s).drop (k + 1)) = X0) := by
                  have hbt := HK.out
                  have hqq := HQ.out
                  exact Pl.go_next hkl HX.out (Pl.s10)
                go_wp2
                go_round
                case rel => exact ⟨k + 1, 9, run, q, d, _, _, by omega, by omega, by omega, by go_num, rfl, by omega, by go_num, rfl, by first | exact HQ.out | omega, by go_num, HS.out, by omega, by omega⟩
                case measure => simp [intOf]; omega
          · have HX1 : Hid (⟨st, run, q, d⟩ = X0) := Pl.go_last (by omega) HX.out
            clear HX
            by_cases h9 : zi = 9
            · subst h9
              obtain rfl : st = 9 := by omega
              clear hzi
              by_cases h3 : 3 ≤ run
              · by_cases hd : 0 < d
                · as_aux_lemma =>
                    have HSN' : Hid (Pl.stt ss (i + 1) = (d, 0)) := HSN.out.trans ((congrArg Pl.fin HX1.out.symm).trans (Pl.fin_shut h3))
                    have HR : Hid _ := rel_next (m := 0) HOW.out HBE.out hlt HN.out (b := true) ((congrArg Pl.isOpen HSN'.out).trans (Pl.open_pos hd))
                    go_wp2
                    go_roundw
                    case rel => exact ⟨i + 1, 0, t + s.size, d, _, by omega, by go_num, rfl, rfl, by first | exact HQ.out | omega, HSN'.out, HTN.out, by omega, by omega, HR.out.1, HR.out.2⟩
                    case measure => simp [intOf]; omega
                · as_aux_lemma =>
                    have HSN' : Hid (Pl.stt ss (i + 1) = (d, 0)) := HSN.out.trans ((congrArg Pl.fin HX1.out.symm).trans (Pl.fin_shut h3))
                    have HR : Hid _ := rel_next (m := 0) HOW.out HBE.out hlt HN.out (b := false) ((congrArg Pl.isOpen HSN'.out).trans (Pl.open_no hd rfl))
                    go_wp2
                    go_roundw
                    case rel => exact ⟨i + 1, 0, t + s.size, d, _, by omega, by go_num, rfl, rfl, by first | exact HQ.out | omega, HSN'.out, HTN.out, by omega, by omega, HR.out.1, HR.out.2⟩
                    case measure => simp [intOf]; omega
              · by_cases hd : 0 < d
                · as_aux_lemma =>
                    have HSN' : Hid (Pl.stt ss (i + 1) = (d, q)) := HSN.out.trans ((congrArg Pl.fin HX1.out.symm).trans (Pl.fin_short h3))
                    have HR : Hid _ := rel_next (m := 0) HOW.out HBE.out hlt HN.out (b := true) ((congrArg Pl.isOpen HSN'.out).trans (Pl.open_pos hd))
                    go_wp2
                    go_roundw
                    case rel => exact ⟨i + 1, q, t + s.size, d, _, by omega, by go_num, rfl, rfl, by first | exact HQ.out | omega, HSN'.out, HTN.out, by omega, by omega, HR.out.1, HR.out.2⟩
                    case measure => simp [intOf]; omega
                · by_cases hqn : qi = 0
                  · subst hqn
                    as_aux_lemma =>
                      have HSN' : Hid (Pl.stt ss (i + 1) = (d, q)) := HSN.out.trans ((congrArg Pl.fin HX1.out.symm).trans (Pl.fin_short h3))
                      have HR : Hid _ := rel_next (m := 0) HOW.out HBE.out hlt HN.out (b := false) ((congrArg Pl.isOpen HSN'.out).trans (Pl.open_no hd (by have := HQ.out; omega)))
                      go_wp2
                      go_roundw
                      case rel => exact ⟨i + 1, q, t + s.size, d, _, by omega, by go_num, rfl, rfl, by first | exact HQ.out | omega, HSN'.out, HTN.out, by omega, by omega, HR.out.1, HR.out.2⟩
                      case measure => simp [intOf]; omega
                  · as_aux_lemma =>
                      have HSN' : Hid (Pl.stt ss (i + 1) = (d, q)) := HSN.out.trans ((congrArg Pl.fin HX1.out.symm).trans (Pl.fin_short h3))
                      have HR : Hid _ := rel_next (m := 0) HOW.out HBE.out hlt HN.out (b := (qi != 0)) ((congrArg Pl.isOpen HSN'.out).trans ((Pl.open_ml (by have := HQ.out; omega)).trans (by simp [hqn])))
                      go_wp2
                      go_roundw
                      case rel => exact ⟨i + 1, q, t + s.size, d, _, by omega, by go_num, rfl, rfl, by first | exact HQ.out | omega, HSN'.out, HTN.out, by omega, by omega, HR.out.1, HR.out.2⟩
                      case measure => simp [intOf]; omega
            · by_cases hd : 0 < d
              · as_aux_lemma =>
                  have HSN' : Hid (Pl.stt ss (i + 1) = (d, q)) := HSN.out.trans ((congrArg Pl.fin HX1.out.symm).trans (Pl.fin_else (by omega)))
                  have HR : Hid _ := rel_next (m := 0) HOW.out HBE.out hlt HN.out (b := true) ((congrArg Pl.isOpen HSN'.out).trans (Pl.open_pos hd))
                  go_wp2
                  go_roundw
                  case rel => exact ⟨i + 1, q, t + s.size, d, _, by omega, by go_num, rfl, rfl, by first | exact HQ.out | omega, HSN'.out, HTN.out, by omega, by omega, HR.out.1, HR.out.2⟩
                  case measure => simp [intOf]; omega
              · by_cases hqn : qi = 0
                · subst hqn
                  as_aux_lemma =>
                    have HSN' : Hid (Pl.stt ss (i + 1) = (d, q)) := HSN.out.trans ((congrArg Pl.fin HX1.out.symm).trans (Pl.fin_else (by omega)))
                    have HR : Hid _ := rel_next (m := 0) HOW.out HBE.out hlt HN.out (b := false) ((congrArg Pl.isOpen HSN'.out).trans (Pl.open_no hd (by have := HQ.out; omega)))
                    go_wp2
                    go_roundw
                    case rel => exact ⟨i + 1, q, t + s.size, d, _, by omega, by go_num, rfl, rfl, by first | exact HQ.out | omega, HSN'.out, HTN.out, by omega, by omega, HR.out.1, HR.out.2⟩
                    case measure => simp [intOf]; omega
                · as_aux_lemma =>
                    have HSN' : Hid (Pl.stt ss (i + 1) = (d, q)) := HSN.out.trans ((congrArg Pl.fin HX1.out.symm).trans (Pl.fin_else (by omega)))
                    have HR : Hid _ := rel_next (m := 0) HOW.out HBE.out hlt HN.out (b := (qi != 0)) ((congrArg Pl.isOpen HSN'.out).trans ((Pl.open_ml (by have := HQ.out; omega)).trans (by simp [hqn])))
                    go_wp2
                    go_roundw
                    case rel => exact ⟨i + 1, q, t + s.size, d, _, by omega, by go_num, rfl, rfl, by first | exact HQ.out | omega, HSN'.out, HTN.out, by omega, by omega, HR.out.1, HR.out.2⟩
                    case measure => simp [intOf]; omega
    · obtain rfl : i = n := by omega
      have HO : Hid (wr.ownsRow w.heap.size 4 1 (.slice (some ⟨w.heap.size, 0, none⟩) i i) i ((Pl.outs ss).map Value.bool)) := by
        have h := hown
        have hl : (Pl.outs ss).length = i := by rw [Pl.outs_length]; exact HN.out.symm
        have e := mid_all (Pl.outs ss)
        rw [hl] at e
        rw [e] at h
        exact h
      have HB : Hid (Below w.heap.size w wr) := hbel
      clear hown hbel hst htt hqi0
      go_wp2
      go_ret
      exact ⟨rfl, HO.out, HB.out⟩
end Go.Proofs.Qxb6601764a
