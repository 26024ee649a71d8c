/-
  THE WALK OF openValues (23).
-/
import Derived.Test.Qxb6601764aOpenPre
namespace Go.Proofs.Qxb6601764a
open Go.ChangeShapes Go.WideShapes Go.ChangeAt Go.RowKit

theorem Try.info4 : (Try.prog.info? 4).map (fun i => (i.zero, i.size, i.bytes)) = some (some (.bool false), 1, 1) := by kernel_rfl

theorem stringEnd_to (s : ByteArray) (i e1 : Nat) (w : World) (hs : s.size ≤ 1048576) (hi : i < s.size) (he : Hid (Pl.E s (Pl.bt s i) (i + 1) = e1)) :
    Calls Try.prog 24 #[.string s, .int .i64 i] w fun e w' => e = .returned (.int .i64 (e1 : Nat)) ∧ w' = w := by
  have := stringEnd_any s i w hs hi
  rw [he.out] at this
  exact this

/-- One line more is answered. -/
theorem rel_next {w wr : World} {ss : List ByteArray} {n i m : Nat} {b : Bool} (hown : wr.ownsRow w.heap.size 4 1 (.slice (some ⟨w.heap.size, 0, none⟩) n n) n (mid (Pl.outs ss) n i)) (hbel : Below w.heap.size w wr)
    (hi : i < n) (hn : n = ss.length) (hb : Pl.isOpen (Pl.stt ss (i + 1)) = b) :
    ((wr.drewN m).setCell ⟨w.heap.size, i, none⟩ (.bool b)).ownsRow w.heap.size 4 1 (.slice (some ⟨w.heap.size, 0, none⟩) n n) n (mid (Pl.outs ss) n (i + 1)) ∧ Below w.heap.size w ((wr.drewN m).setCell ⟨w.heap.size, i, none⟩ (.bool b)) := by
  have h1 : (wr.drewN m).ownsRow w.heap.size 4 1 (.slice (some ⟨w.heap.size, 0, none⟩) n n) n (mid (Pl.outs ss) n i) := hown
  have h2 := (h1.stored i (.bool b)).1
  rw [mid_set (Pl.outs ss) n i b (by rw [Pl.outs_length, hn]) hi (by rw [Pl.outs_get (by omega), hb])] at h2
  exact ⟨h2, (below_drewN hbel m).setCell (Nat.le_refl _) _⟩
theorem stt_next {ss : List ByteArray} {i q0 q k : Nat} {d0 d : Int} {s : ByteArray} (h : i < ss.length) (hs : s = ss[i]) (h1 : Pl.stt ss i = (d0, q0)) (h2 : Pl.T s d q k = Pl.T s d0 q0 0) (hk : s.size ≤ k) : Pl.stt ss (i + 1) = (d, q) := by
  rw [Pl.stt_succ h, h1, ← hs]
  show Pl.T s d0 q0 0 = _
  rw [← h2, Pl.T_end hk]

set_option maxHeartbeats 1000000 in
set_option maxRecDepth 100000 in
theorem openValues_some (ss : List ByteArray) (b off c0 : Nat) (w : World) (hb : b < w.heap.size) (hn : ss.length ≤ 65537) (ht : Pl.tot ss ss.length ≤ 1048576)
    (hc : ∀ j, (h : j < ss.length) → w.cell? ⟨b, off + j, none⟩ = some (.string ss[j])) :
    Calls Try.prog 23 #[.slice (some ⟨b, off, none⟩) ss.length c0] w fun e w' => e = .returned (.slice (some ⟨w.heap.size, 0, none⟩) ss.length ss.length) ∧
      w'.ownsRow w.heap.size 4 1 (.slice (some ⟨w.heap.size, 0, none⟩) ss.length ss.length) ss.length ((Pl.outs ss).map Value.bool) ∧ Below w.heap.size w w' := by
  obtain ⟨i4, hi4, hz0, hz1, hz2⟩ := info_parts Try.info4
  obtain ⟨n, hnn⟩ : ∃ n, n = ss.length := ⟨_, rfl⟩
  have HC : Hid (∀ j, (h : j < ss.length) → w.cell? ⟨b, off + j, none⟩ = some (.string ss[j])) := hc
  have HN : Hid (n = ss.length) := hnn
  rw [← hnn] at hn ⊢
  clear hc hnn
  have HT : Hid (Pl.tot ss ss.length ≤ 1048576) := ht
  clear ht
  go_enter Try.func23, Try.ntmps23
  go_wp2_with (first
    | (at_make; refine wpList_make_full _ rfl _ _ 25 rfl w.heap.size 4 i4 (.bool false) 1 Try.underlying25 hi4 hz0 hz1 _ _ _ _ n rfl rfl rfl rfl (by rw [hz2]; omega) (by unfold maxLen; omega) (Nat.le_refl _) ?_; intro w1 hown hgrow)
    | go_in)
  have HO : Hid (w1.ownsRow w.heap.size 4 1 (.slice (some ⟨w.heap.size, 0, none⟩) n n) n (mid (Pl.outs ss) n 0)) := by
    rw [mid_zero, ← toList_madeCells_one]
    have h := hown
    simp only [Value.cells, Nat.mul_one] at h
    exact h
  have HB1 : Hid (Below w.heap.size w w1) := (Below.refl _ _).grown hgrow (Nat.le_refl _) (fun k hk => by cases hk)
  clear hown hgrow hi4 hz0 hz1 hz2
  go_loopw [4, 5, 15] (fun dv cv iv wr => ∃ (i q t : Nat) (d : Int) (c : ByteArray), i ≤ n ∧ iv = .int .i64 i ∧ dv = .int .i64 d ∧ cv = .string c ∧ Cl q c ∧ Pl.stt ss i = (d, q) ∧ t = Pl.tot ss i ∧ d ≤ t ∧ -(t : Int) ≤ d ∧
      wr.ownsRow w.heap.size 4 1 (.slice (some ⟨w.heap.size, 0, none⟩) n n) n (mid (Pl.outs ss) n i) ∧ Below w.heap.size w wr) (fun _ _ iv _ => n - (intOf iv).toNat)
  case atStart => exact ⟨0, 0, 0, 0, ⟨#[]⟩, by omega, rfl, rfl, rfl, .inl ⟨rfl, rfl⟩, Pl.stt_zero _, (Pl.tot_zero _).symm, by omega, by omega, HO.out, HB1.out⟩
  case round =>
    clear HO HB1
    obtain ⟨i, q0, t, d0, cc0, hin, rfl, rfl, rfl, hcl0, hst, htt, hd1, hd2, hown, hbel⟩ := hrel
    by_cases hlt : i < n
    · have hltS : i < ss.length := by rw [← HN.out]; exact hlt
      obtain ⟨s, hs⟩ : ∃ s, s = ss[i] := ⟨_, rfl⟩
      have hcs : wr.cell? ⟨b, off + i, none⟩ = some (.string s) := by rw [hs, hbel.cell (by exact hb)]; exact HC.out i hltS
      have hts : t + s.size ≤ 1048576 := by
        have h1 := Pl.tot_succ hltS
        have h2 := Pl.tot_le ss (i + 1) ss.length (by omega)
        have h3 := HT.out
        rw [hs]; omega
      have HS : Hid (s = ss[i]) := hs
      have HST : Hid (Pl.stt ss i = (d0, q0)) := hst
      have HTT : Hid (t = Pl.tot ss i) := htt
      have HOW : Hid (wr.ownsRow w.heap.size 4 1 (.slice (some ⟨w.heap.size, 0, none⟩) n n) n (mid (Pl.outs ss) n i)) := hown
      have HBE : Hid (Below w.heap.size w wr) := hbel
      have HCL0 : Hid (Cl q0 cc0) := hcl0
      clear hs hst htt hown hbel hcl0
      go_wp2_with fail
      go_loopw [4, 5, 8] (fun dv cv jv wx => ∃ (k q m : Nat) (d : Int) (c : ByteArray), k ≤ s.size ∧ jv = .int .i64 k ∧ dv = .int .i64 d ∧ cv = .string c ∧ Cl q c ∧ Pl.T s d q k = Pl.T s d0 q0 0 ∧ d ≤ (t : Int) + k ∧ -((t : Int) + k) ≤ d ∧ wx = wr.drewN m) (fun _ _ jv _ => s.size - (intOf jv).toNat)
      case atStart => exact ⟨0, q0, 0, d0, cc0, by omega, rfl, rfl, rfl, HCL0.out, rfl, by omega, by omega, rfl⟩
      case round =>
        obtain ⟨k, q, m, d, c, hks, rfl, rfl, rfl, hcl, hTT, he1, he2, rfl⟩ := hrel
        have HTR : Hid (Pl.T s d q k = Pl.T s d0 q0 0) := hTT
        clear hTT HCL0
        by_cases hkl : k < s.size
        · have HK : Hid (Pl.bt s k = s[k].toNat) := Pl.bt_lt hkl
          rcases hcl with ⟨rfl, rfl⟩ | ⟨hq, hcq⟩
          · by_cases h35 : (s[k].toNat : Int) = 35
            · go_wp2
              have hkk := HK.out
              go_roundw
              case rel => exact ⟨s.size, 0, m, d, ⟨#[]⟩, by omega, by go_num, by go_num, rfl, .inl ⟨rfl, rfl⟩, by rw [← HTR.out]; exact (Pl.T_hash hkl (by omega)).symm, by omega, by omega, by first | rfl | simp⟩
              case measure => simp [intOf]; omega
            · by_cases ht34 : Pl.tri s k 34
              · have HT34 : Hid (Pl.tri s k 34) := ht34
                have hk2 : k + 2 < s.size := ht34.1
                clear ht34
                go_wp2_with (first | (go_at_call 26; refine (hp34_yes s k _ (by omega) HT34).mono ?_; rintro e w' ⟨rfl, rfl⟩))
                have hkk := HK.out
                go_roundw
                case rel => exact ⟨k + 3, 34, m, d, _, by omega, by go_num, by go_num, rfl, .inr ⟨.inl rfl, Pl.q3_cut (u := 34) HT34.out⟩, by rw [← HTR.out]; exact (Pl.T_three (.inl rfl) hk2 HT34.out.2.1 HT34.out.2.2.1 HT34.out.2.2.2).symm, by omega, by omega, by first | rfl | simp⟩
                case measure => simp [intOf]; omega
              · have HT34 : Hid (¬ Pl.tri s k 34) := ht34
                clear ht34
                by_cases ht39 : Pl.tri s k 39
                · have HT39 : Hid (Pl.tri s k 39) := ht39
                  have hk2 : k + 2 < s.size := ht39.1
                  clear ht39
                  go_wp2_with (first | (go_at_call 26; refine (hp34_no s k _ (by omega) HT34).mono ?_; rintro e w' ⟨rfl, rfl⟩) | (go_at_call 26; refine (hp39_yes s k _ (by omega) HT39).mono ?_; rintro e w' ⟨rfl, rfl⟩))
                  have hkk := HK.out
                  go_roundw
                  case rel => exact ⟨k + 3, 39, m, d, _, by omega, by go_num, by go_num, rfl, .inr ⟨.inr rfl, Pl.q3_cut (u := 39) HT39.out⟩, by rw [← HTR.out]; exact (Pl.T_three (.inr rfl) hk2 HT39.out.2.1 HT39.out.2.2.1 HT39.out.2.2.2).symm, by omega, by omega, by first | rfl | simp⟩
                  case measure => simp [intOf]; omega
                · have HT39 : Hid (¬ Pl.tri s k 39) := ht39
                  clear ht39
                  by_cases h34 : (s[k].toNat : Int) = 34
                  · have hE1 := Pl.E_le s (Pl.bt s k) (k + 1)
                    have hE2 : k + 1 ≤ Pl.E s (Pl.bt s k) (k + 1) := Pl.E_ge (by omega)
                    obtain ⟨e1, he1⟩ : ∃ e1, Pl.E s (Pl.bt s k) (k + 1) = e1 := ⟨_, rfl⟩
                    rw [he1] at hE1 hE2
                    have HEE : Hid (Pl.E s (Pl.bt s k) (k + 1) = e1) := he1
                    have HTS : Hid (Pl.T s d 0 k = Pl.T s d 0 e1) := by
                      have hkk := HK.out
                      rw [← he1, show Pl.bt s k = 34 by omega]
                      exact Pl.T_str (.inl rfl) hkl (by omega) (fun h => HT34.out ⟨h.1, by omega, h.2⟩)
                    clear he1
                    go_wp2_with (first | (go_at_call 26; refine (hp34_no s k _ (by omega) HT34).mono ?_; rintro e w' ⟨rfl, rfl⟩) | (go_at_call 26; refine (hp39_no s k _ (by omega) HT39).mono ?_; rintro e w' ⟨rfl, rfl⟩) | (go_at_call 24; refine (stringEnd_to s k e1 _ (by omega) hkl HEE).mono ?_; rintro e w' ⟨rfl, rfl⟩))
                    have hkk := HK.out
                    go_roundw
                    case rel => exact ⟨e1, 0, m, d, ⟨#[]⟩, by omega, by go_num, by go_num, rfl, .inl ⟨rfl, rfl⟩, by rw [← HTR.out]; exact HTS.out.symm, by omega, by omega, by first | rfl | simp⟩
                    case measure => simp [intOf]; omega
                  · by_cases h39 : (s[k].toNat : Int) = 39
                    · have hE1 := Pl.E_le s (Pl.bt s k) (k + 1)
                      have hE2 : k + 1 ≤ Pl.E s (Pl.bt s k) (k + 1) := Pl.E_ge (by omega)
                      obtain ⟨e1, he1⟩ : ∃ e1, Pl.E s (Pl.bt s k) (k + 1) = e1 := ⟨_, rfl⟩
                      rw [he1] at hE1 hE2
                      have HEE : Hid (Pl.E s (Pl.bt s k) (k + 1) = e1) := he1
                      have HTS : Hid (Pl.T s d 0 k = Pl.T s d 0 e1) := by
                        have hkk := HK.out
                        rw [← he1, show Pl.bt s k = 39 by omega]
                        exact Pl.T_str (.inr rfl) hkl (by omega) (fun h => HT39.out ⟨h.1, by omega, h.2⟩)
                      clear he1
                      go_wp2_with (first | (go_at_call 26; refine (hp34_no s k _ (by omega) HT34).mono ?_; rintro e w' ⟨rfl, rfl⟩) | (go_at_call 26; refine (hp39_no s k _ (by omega) HT39).mono ?_; rintro e w' ⟨rfl, rfl⟩) | (go_at_call 24; refine (stringEnd_to s k e1 _ (by omega) hkl HEE).mono ?_; rintro e w' ⟨rfl, rfl⟩))
                      have hkk := HK.out
                      go_roundw
                      case rel => exact ⟨e1, 0, m, d, ⟨#[]⟩, by omega, by go_num, by go_num, rfl, .inl ⟨rfl, rfl⟩, by rw [← HTR.out]; exact HTS.out.symm, by omega, by omega, by first | rfl | simp⟩
                      case measure => simp [intOf]; omega
                    · by_cases h91 : (s[k].toNat : Int) = 91
                      · go_wp2_with (first | (go_at_call 26; refine (hp34_no s k _ (by omega) HT34).mono ?_; rintro e w' ⟨rfl, rfl⟩) | (go_at_call 26; refine (hp39_no s k _ (by omega) HT39).mono ?_; rintro e w' ⟨rfl, rfl⟩))
                        have hkk := HK.out
                        go_roundw
                        case rel => exact ⟨k + 1, 0, m, d + 1, ⟨#[]⟩, by omega, by go_num, by go_num, rfl, .inl ⟨rfl, rfl⟩, by rw [← HTR.out]; exact (Pl.T_up hkl (by omega)).symm, by omega, by omega, by first | rfl | simp⟩
                        case measure => simp [intOf]; omega
                      · by_cases h123 : (s[k].toNat : Int) = 123
                        · go_wp2_with (first | (go_at_call 26; refine (hp34_no s k _ (by omega) HT34).mono ?_; rintro e w' ⟨rfl, rfl⟩) | (go_at_call 26; refine (hp39_no s k _ (by omega) HT39).mono ?_; rintro e w' ⟨rfl, rfl⟩))
                          have hkk := HK.out
                          go_roundw
                          case rel => exact ⟨k + 1, 0, m, d + 1, ⟨#[]⟩, by omega, by go_num, by go_num, rfl, .inl ⟨rfl, rfl⟩, by rw [← HTR.out]; exact (Pl.T_up hkl (by omega)).symm, by omega, by omega, by first | rfl | simp⟩
                          case measure => simp [intOf]; omega
                        · by_cases h93 : (s[k].toNat : Int) = 93
                          · go_wp2_with (first | (go_at_call 26; refine (hp34_no s k _ (by omega) HT34).mono ?_; rintro e w' ⟨rfl, rfl⟩) | (go_at_call 26; refine (hp39_no s k _ (by omega) HT39).mono ?_; rintro e w' ⟨rfl, rfl⟩))
                            have hkk := HK.out
                            go_roundw
                            case rel => exact ⟨k + 1, 0, m, d - 1, ⟨#[]⟩, by omega, by go_num, by go_num, rfl, .inl ⟨rfl, rfl⟩, by rw [← HTR.out]; exact (Pl.T_down hkl (by omega)).symm, by omega, by omega, by first | rfl | simp⟩
                            case measure => simp [intOf]; omega
                          · by_cases h125 : (s[k].toNat : Int) = 125
                            · go_wp2_with (first | (go_at_call 26; refine (hp34_no s k _ (by omega) HT34).mono ?_; rintro e w' ⟨rfl, rfl⟩) | (go_at_call 26; refine (hp39_no s k _ (by omega) HT39).mono ?_; rintro e w' ⟨rfl, rfl⟩))
                              have hkk := HK.out
                              go_roundw
                              case rel => exact ⟨k + 1, 0, m, d - 1, ⟨#[]⟩, by omega, by go_num, by go_num, rfl, .inl ⟨rfl, rfl⟩, by rw [← HTR.out]; exact (Pl.T_down hkl (by omega)).symm, by omega, by omega, by first | rfl | simp⟩
                              case measure => simp [intOf]; omega
                            · go_wp2_with (first | (go_at_call 26; refine (hp34_no s k _ (by omega) HT34).mono ?_; rintro e w' ⟨rfl, rfl⟩) | (go_at_call 26; refine (hp39_no s k _ (by omega) HT39).mono ?_; rintro e w' ⟨rfl, rfl⟩))
                              have hkk := HK.out
                              go_roundw
                              case rel => exact ⟨k + 1, 0, m, d, ⟨#[]⟩, by omega, by go_num, by go_num, rfl, .inl ⟨rfl, rfl⟩, by rw [← HTR.out]; exact (Pl.T_skip hkl (by omega) (by omega) (by omega) (by omega) (by omega) (by omega) (by omega)).symm, by omega, by omega, by first | rfl | simp⟩
                              case measure => simp [intOf]; omega
          · have HCQ : Hid (c = Pl.clo q false) := hcq
            have hce : c.toList.isEmpty = false := by rw [hcq]; rcases hq with rfl | rfl <;> decide +kernel
            clear hcq
            have hG1 := Pl.G_gt (q := q) hkl
            have hG2 := Pl.G_le s q 0 k
            generalize hG : Pl.G s q 0 k = g at hG1 hG2
            obtain ⟨gm, gb⟩ := g
            have HV : Hid (Pl.mlv s q k = .tuple #[.int .i64 (gm : Nat), .string (Pl.clo q gb)]) := Pl.mlv_of hG
            have HTM : Hid (Pl.T s d q k = Pl.T s d (if gb then 0 else q) gm) := Pl.T_ml (by omega) hkl hG
            have HCC : Hid (Cl (if gb then 0 else q) (Pl.clo q gb)) := by
              cases gb
              · exact .inr ⟨hq, rfl⟩
              · exact .inl ⟨rfl, rfl⟩
            generalize (if gb then 0 else q) = q1 at HTM HCC
            clear hG
            simp only at hG1 hG2
            go_wp2_with (first | (go_at_call 25; refine (multi_any s k c q _ (by omega) (by omega) hq HCQ).mono ?_; rintro e w' ⟨rfl, nn, rfl⟩; rw [HV.out]))
            go_roundw
            case rel => exact ⟨gm, q1, m + nn, d, _, by omega, rfl, rfl, rfl, HCC.out, by rw [← HTR.out, HTM.out], by omega, by omega, by simp⟩
            case measure => simp [intOf]; omega
        · obtain ⟨v, hsc⟩ : ∃ v, wr.cell? ⟨w.heap.size, i, none⟩ = some v := by
            have h := HOW.out.cellAt i (by omega)
            have hl := mid_length (Pl.outs ss) n i (by rw [Pl.outs_length]; exact HN.out.symm) (by omega)
            rw [List.getElem?_eq_getElem (by omega)] at h
            exact ⟨_, h⟩
          have hsf : wr.frozen? ⟨w.heap.size, i, none⟩ = false := HOW.out.frozenAt i
          have HSN : Hid (Pl.stt ss (i + 1) = (d, q)) := stt_next hltS HS.out HST.out HTR.out (by omega)
          have HTN : Hid (t + s.size = Pl.tot ss (i + 1)) := by rw [HTT.out, HS.out]; exact (Pl.tot_succ hltS).symm
          have HCL : Hid (Cl q c) := hcl
          by_cases hd : 0 < d
          · have R := rel_next (m := m) HOW.out HBE.out hlt HN.out (b := true) (by rw [HSN.out]; simp [Pl.isOpen, hd])
            have HR := (show Hid _ from R)
            clear R
            go_wp2
            go_roundw
            case rel => exact ⟨i + 1, q, t + s.size, d, c, by omega, by go_num, rfl, rfl, HCL.out, HSN.out, HTN.out, by omega, by omega, HR.out.1, HR.out.2⟩
            case measure => simp [intOf]; omega
          · rcases hcl with ⟨hq0, hc0⟩ | ⟨hq, hcq⟩
            · have hce : c.toList.isEmpty = true := by rw [hc0]; decide +kernel
              have R := rel_next (m := m) HOW.out HBE.out hlt HN.out (b := false) (by rw [HSN.out]; simp [Pl.isOpen, hd, hq0])
              have HR := (show Hid _ from R)
              clear R hq0 hc0
              go_wp2
              go_roundw
              case rel => exact ⟨i + 1, q, t + s.size, d, c, by omega, by go_num, rfl, rfl, HCL.out, HSN.out, HTN.out, by omega, by omega, HR.out.1, HR.out.2⟩
              case measure => simp [intOf]; omega
            · have hce : c.toList.isEmpty = false := by rw [hcq]; rcases hq with rfl | rfl <;> decide +kernel
              have R := rel_next (m := m) HOW.out HBE.out hlt HN.out (b := true) (by rw [HSN.out]; simp [Pl.isOpen]; omega)
              have HR := (show Hid _ from R)
              clear R hcq
              go_wp2
              go_roundw
              case rel => exact ⟨i + 1, q, t + s.size, d, c, by omega, by go_num, rfl, rfl, HCL.out, HSN.out, HTN.out, by omega, by omega, HR.out.1, HR.out.2⟩
              case measure => simp [intOf]; omega
    · obtain rfl : i = n := by omega
      have HO : Hid (wr.ownsRow w.heap.size 4 1 (.slice (some ⟨w.heap.size, 0, none⟩) i i) i ((Pl.outs ss).map Value.bool)) := by
        have h := hown
        have hl : (Pl.outs ss).length = i := by rw [Pl.outs_length]; exact HN.out.symm
        have e := mid_all (Pl.outs ss)
        rw [hl] at e
        rw [e] at h
        exact h
      have HB : Hid (Below w.heap.size w wr) := hbel
      clear hown hbel hst htt hcl0
      go_wp2
      go_ret
      exact ⟨rfl, HO.out, HB.out⟩
end Go.Proofs.Qxb6601764a
