/-
  A SLICE OF STRINGS: the bounds' tests (9, 14, 15, 10), the copy (11), openValues over whatever slice (12).
-/
import Derived.Test.Qxb6601764aOpen
namespace Go.Proofs.Qxb6601764a
open Go.ChangeShapes Go.WideShapes Go.ChangeAt Go.RowKit

/-- The slice that begins at a holds the strings ss. -/
def SRow (w : World) (a : Option Addr) (ss : List ByteArray) : Prop :=
  ss = [] ∨ ∃ b off, a = some ⟨b, off, none⟩ ∧ b < w.heap.size ∧ ∀ j, (h : j < ss.length) → w.cell? ⟨b, off + j, none⟩ = some (.string ss[j])

/-- A test's answer: some bool; where it is yes, P. -/
def Tells (w : World) (P : Prop) (e : Ending) (w' : World) : Prop := ∃ r : Bool, e = .returned (.bool r) ∧ w' = w ∧ (r = true → P)
theorem tells_no (w : World) (P : Prop) : Tells w P (.returned (.bool false)) w := ⟨false, rfl, rfl, fun h => by cases h⟩
theorem tells_of {w : World} {P : Prop} {r : Bool} (h : r = true → P) : Tells w P (.returned (.bool r)) w := ⟨r, rfl, rfl, h⟩
theorem tells_yes {w : World} {P : Prop} (h : P) : Tells w P (.returned (.bool true)) w := ⟨true, rfl, rfl, fun _ => h⟩

set_option maxHeartbeats 400000 in
theorem small_any (ss : List ByteArray) (a : Option Addr) (c : Nat) (w : World) (hrow : SRow w a ss) (hn : ss.length ≤ 1048576) (hz : ∀ j, (h : j < ss.length) → ss[j].size ≤ 1048576) :
    Calls Try.prog 10 #[.slice a ss.length c] w (Tells w (ss.length ≤ 65536 ∧ Pl.tot ss ss.length ≤ 1048576)) := by
  have HROW : Hid (SRow w a ss) := hrow
  have HZ : Hid (∀ j, (h : j < ss.length) → ss[j].size ≤ 1048576) := hz
  clear hz hrow
  obtain ⟨n, hnn⟩ : ∃ n, n = ss.length := ⟨_, rfl⟩
  have HN : Hid (n = ss.length) := hnn
  rw [← hnn] at hn ⊢
  clear hnn
  by_cases h1 : n ≤ 65536
  · rcases HROW.out with h0 | ⟨b, off, rfl, hb, hc⟩
    · have h0' : n = 0 := by rw [HN.out, h0]; rfl
      subst h0'
      go_enter Try.func10, Try.ntmps10
      go_wp2
      refine wp_loop_rounds 1 ?_
      rw [rounds_succ]
      go_wp2
      go_ret
      exact tells_yes ⟨by omega, by rw [Pl.tot_zero]; omega⟩
    · have HC : Hid (∀ j, (h : j < ss.length) → w.cell? ⟨b, off + j, none⟩ = some (.string ss[j])) := hc
      clear hc HROW hb
      go_enter Try.func10, Try.ntmps10
      go_wp2
      go_loop [3, 4] (fun nv jv => ∃ j t : Nat, j ≤ n ∧ jv = .int .i64 j ∧ nv = .int .i64 t ∧ t = 16 * n + Pl.tot ss j ∧ t ≤ 1048576) (fun _ jv => n - (intOf jv).toNat)
      case atStart => exact ⟨0, 16 * n, by omega, rfl, by go_num, by rw [Pl.tot_zero]; omega, by omega⟩
      case round =>
        obtain ⟨j, t, hj, rfl, rfl, ht, htb⟩ := hrel
        have HT : Hid (t = 16 * n + Pl.tot ss j) := ht
        clear ht
        by_cases hlt : j < n
        · have hltS : j < ss.length := by rw [← HN.out]; exact hlt
          obtain ⟨s, hs⟩ : ∃ s, s = ss[j] := ⟨_, rfl⟩
          have hcs : w.cell? ⟨b, off + j, none⟩ = some (.string s) := by rw [hs]; exact HC.out j hltS
          have hsz : s.size ≤ 1048576 := by rw [hs]; exact HZ.out j hltS
          have HS : Hid (s = ss[j]) := hs
          clear hs
          by_cases hgt : t + s.size ≤ 1048576
          · go_wp2
            have e1 := Pl.tot_succ hltS
            go_round
            case rel => exact ⟨j + 1, t + s.size, by omega, by go_num, by go_num, by rw [HT.out, e1, HS.out]; omega, by omega⟩
            case measure => simp [intOf]; omega
          · go_wp2
            go_ret
            exact tells_no _ _
        · obtain rfl : j = n := by omega
          go_wp2
          go_ret
          exact tells_of fun _ => by rw [HT.out] at htb; omega
  · go_enter Try.func10, Try.ntmps10
    go_wp2
    go_ret
    exact tells_no _ _

set_option maxHeartbeats 400000 in
theorem bytes14_any (ss : List ByteArray) (a : Option Addr) (c : Nat) (x : Int) (w : World) (hrow : SRow w a ss) :
    Calls Try.prog 14 #[.slice a ss.length c, .int .i64 x] w (Tells w (ss.length ≤ 1048576 ∧ Pl.tot ss ss.length ≤ 1048576)) := by
  have HROW : Hid (SRow w a ss) := hrow
  clear hrow
  obtain ⟨n, hnn⟩ : ∃ n, n = ss.length := ⟨_, rfl⟩
  have HN : Hid (n = ss.length) := hnn
  rw [← hnn]
  clear hnn
  by_cases h1 : n ≤ 1048576
  · rcases HROW.out with h0 | ⟨b, off, rfl, hb, hc⟩
    · have h0' : n = 0 := by rw [HN.out, h0]; rfl
      subst h0'
      go_enter Try.func14, Try.ntmps14
      go_wp2
      refine wp_loop_rounds 1 ?_
      rw [rounds_succ]
      go_wp2
      go_ret
      exact tells_yes ⟨by omega, by rw [Pl.tot_zero]; omega⟩
    · have HC : Hid (∀ j, (h : j < ss.length) → w.cell? ⟨b, off + j, none⟩ = some (.string ss[j])) := hc
      clear hc HROW hb
      go_enter Try.func14, Try.ntmps14
      go_wp2
      go_loop [5, 6] (fun nv jv => ∃ j t : Nat, j ≤ n ∧ jv = .int .i64 j ∧ nv = .int .i64 t ∧ t = n + Pl.tot ss j ∧ t ≤ 1048576) (fun _ jv => n - (intOf jv).toNat)
      case atStart => exact ⟨0, n, by omega, rfl, by go_num, by rw [Pl.tot_zero]; omega, by omega⟩
      case round =>
        obtain ⟨j, t, hj, rfl, rfl, ht, htb⟩ := hrel
        have HT : Hid (t = n + Pl.tot ss j) := ht
        clear ht
        by_cases hlt : j < n
        · have hltS : j < ss.length := by rw [← HN.out]; exact hlt
          obtain ⟨s, hs⟩ : ∃ s, s = ss[j] := ⟨_, rfl⟩
          have hcs : w.cell? ⟨b, off + j, none⟩ = some (.string s) := by rw [hs]; exact HC.out j hltS
          have HS : Hid (s = ss[j]) := hs
          clear hs
          by_cases hsz : s.size ≤ 1048576
          · by_cases hgt : t + s.size ≤ 1048576
            · go_wp2
              have e1 := Pl.tot_succ hltS
              go_round
              case rel => exact ⟨j + 1, t + s.size, by omega, by go_num, by go_num, by rw [HT.out, e1, HS.out]; omega, by omega⟩
              case measure => simp [intOf]; omega
            · go_wp2
              go_ret
              exact tells_no _ _
          · go_wp2
            go_ret
            exact tells_no _ _
        · obtain rfl : j = n := by omega
          go_wp2
          go_ret
          exact tells_of fun _ => by rw [HT.out] at htb; omega
  · go_enter Try.func14, Try.ntmps14
    go_wp2
    go_ret
    exact tells_no _ _

set_option maxHeartbeats 400000 in
theorem bytes15_any (ss : List ByteArray) (a : Option Addr) (c : Nat) (x : Int) (w : World) (hrow : SRow w a ss) :
    Calls Try.prog 15 #[.slice a ss.length c, .int .i64 x] w (Tells w (ss.length ≤ 1048576 ∧ Pl.tot ss ss.length ≤ 1048576)) := by
  have HROW : Hid (SRow w a ss) := hrow
  clear hrow
  obtain ⟨n, hnn⟩ : ∃ n, n = ss.length := ⟨_, rfl⟩
  have HN : Hid (n = ss.length) := hnn
  rw [← hnn]
  clear hnn
  by_cases h1 : n ≤ 1048576
  · rcases HROW.out with h0 | ⟨b, off, rfl, hb, hc⟩
    · have h0' : n = 0 := by rw [HN.out, h0]; rfl
      subst h0'
      go_enter Try.func15, Try.ntmps15
      go_wp2
      refine wp_loop_rounds 1 ?_
      rw [rounds_succ]
      go_wp2
      go_ret
      exact tells_yes ⟨by omega, by rw [Pl.tot_zero]; omega⟩
    · have HC : Hid (∀ j, (h : j < ss.length) → w.cell? ⟨b, off + j, none⟩ = some (.string ss[j])) := hc
      clear hc HROW hb
      go_enter Try.func15, Try.ntmps15
      go_wp2
      go_loop [5, 6] (fun nv jv => ∃ j t : Nat, j ≤ n ∧ jv = .int .i64 j ∧ nv = .int .i64 t ∧ t = n + Pl.tot ss j ∧ t ≤ 1048576) (fun _ jv => n - (intOf jv).toNat)
      case atStart => exact ⟨0, n, by omega, rfl, by go_num, by rw [Pl.tot_zero]; omega, by omega⟩
      case round =>
        obtain ⟨j, t, hj, rfl, rfl, ht, htb⟩ := hrel
        have HT : Hid (t = n + Pl.tot ss j) := ht
        clear ht
        by_cases hlt : j < n
        · have hltS : j < ss.length := by rw [← HN.out]; exact hlt
          obtain ⟨s, hs⟩ : ∃ s, s = ss[j] := ⟨_, rfl⟩
          have hcs : w.cell? ⟨b, off + j, none⟩ = some (.string s) := by rw [hs]; exact HC.out j hltS
          have HS : Hid (s = ss[j]) := hs
          clear hs
          by_cases hsz : s.size ≤ 1048576
          · by_cases hgt : t + s.size ≤ 1048576
            · go_wp2
              have e1 := Pl.tot_succ hltS
              go_round
              case rel => exact ⟨j + 1, t + s.size, by omega, by go_num, by go_num, by rw [HT.out, e1, HS.out]; omega, by omega⟩
              case measure => simp [intOf]; omega
            · go_wp2
              go_ret
              exact tells_no _ _
          · go_wp2
            go_ret
            exact tells_no _ _
        · obtain rfl : j = n := by omega
          go_wp2
          go_ret
          exact tells_of fun _ => by rw [HT.out] at htb; omega
  · go_enter Try.func15, Try.ntmps15
    go_wp2
    go_ret
    exact tells_no _ _

set_option maxHeartbeats 400000 in
theorem bytes9_any (ss : List ByteArray) (a : Option Addr) (c : Nat) (w : World) (hrow : SRow w a ss) :
    Calls Try.prog 9 #[.slice a ss.length c] w (Tells w (ss.length ≤ 1048576 ∧ Pl.tot ss ss.length ≤ 1048576)) := by
  have HROW : Hid (SRow w a ss) := hrow
  clear hrow
  obtain ⟨n, hnn⟩ : ∃ n, n = ss.length := ⟨_, rfl⟩
  have HN : Hid (n = ss.length) := hnn
  rw [← hnn]
  clear hnn
  by_cases h1 : n ≤ 1048576
  · rcases HROW.out with h0 | ⟨b, off, rfl, hb, hc⟩
    · have h0' : n = 0 := by rw [HN.out, h0]; rfl
      subst h0'
      go_enter Try.func9, Try.ntmps9
      go_wp2
      refine wp_loop_rounds 1 ?_
      rw [rounds_succ]
      go_wp2
      go_ret
      exact tells_yes ⟨by omega, by rw [Pl.tot_zero]; omega⟩
    · have HC : Hid (∀ j, (h : j < ss.length) → w.cell? ⟨b, off + j, none⟩ = some (.string ss[j])) := hc
      clear hc HROW hb
      go_enter Try.func9, Try.ntmps9
      go_wp2
      go_loop [3, 4] (fun nv jv => ∃ j t : Nat, j ≤ n ∧ jv = .int .i64 j ∧ nv = .int .i64 t ∧ t = n + Pl.tot ss j ∧ t ≤ 1048576) (fun _ jv => n - (intOf jv).toNat)
      case atStart => exact ⟨0, n, by omega, rfl, by go_num, by rw [Pl.tot_zero]; omega, by omega⟩
      case round =>
        obtain ⟨j, t, hj, rfl, rfl, ht, htb⟩ := hrel
        have HT : Hid (t = n + Pl.tot ss j) := ht
        clear ht
        by_cases hlt : j < n
        · have hltS : j < ss.length := by rw [← HN.out]; exact hlt
          obtain ⟨s, hs⟩ : ∃ s, s = ss[j] := ⟨_, rfl⟩
          have hcs : w.cell? ⟨b, off + j, none⟩ = some (.string s) := by rw [hs]; exact HC.out j hltS
          have HS : Hid (s = ss[j]) := hs
          clear hs
          by_cases hsz : s.size ≤ 1048576
          · by_cases hgt : t + s.size ≤ 1048576
            · go_wp2
              have e1 := Pl.tot_succ hltS
              go_round
              case rel => exact ⟨j + 1, t + s.size, by omega, by go_num, by go_num, by rw [HT.out, e1, HS.out]; omega, by omega⟩
              case measure => simp [intOf]; omega
            · go_wp2
              go_ret
              exact tells_no _ _
          · go_wp2
            go_ret
            exact tells_no _ _
        · obtain rfl : j = n := by omega
          go_wp2
          go_ret
          exact tells_of fun _ => by rw [HT.out] at htb; omega
  · go_enter Try.func9, Try.ntmps9
    go_wp2
    go_ret
    exact tells_no _ _

theorem Try.info9 : (Try.prog.info? 9).map (fun i => (i.zero, i.size, i.bytes)) = some (some (.string ⟨#[]⟩), 1, 16) := by kernel_rfl

/-- What the copy holds behind the first i strings. -/
def midS (ss : List ByteArray) (n i : Nat) : List Value := (ss.take i).map Value.string ++ List.replicate (n - i) (Value.string ⟨#[]⟩)
theorem midS_zero (ss : List ByteArray) (n : Nat) : midS ss n 0 = List.replicate n (.string ⟨#[]⟩) := by simp [midS]
theorem midS_all (ss : List ByteArray) : midS ss ss.length ss.length = ss.map Value.string := by simp [midS]
theorem midS_length (ss : List ByteArray) (n i : Nat) (h : ss.length = n) (hi : i ≤ n) : (midS ss n i).length = n := by simp [midS]; omega
theorem midS_set (ss : List ByteArray) (n i : Nat) (s : ByteArray) (h : ss.length = n) (hi : i < n) (hb : ss[i]? = some s) : (midS ss n i).set i (.string s) = midS ss n (i + 1) := by
  have hi' : i < ss.length := by omega
  have hl : ((ss.take i).map Value.string).length = i := by simp; omega
  unfold midS
  rw [List.set_append_right _ _ (by omega), hl, Nat.sub_self]
  obtain ⟨m, hm⟩ : ∃ m, n - i = m + 1 := ⟨n - i - 1, by omega⟩
  rw [hm, List.replicate_succ, List.set_cons_zero, List.take_succ_eq_append_getElem hi', List.map_append, show n - (i + 1) = m by omega]
  have e : ss[i] = s := by rw [List.getElem?_eq_getElem hi'] at hb; simpa using hb
  simp [e]

/-- nil stays nil. -/
theorem copy_nil (w : World) : Calls Try.prog 11 #[.slice none 0 0] w fun e w' => e = .returned (.slice none 0 0) ∧ w' = w := by
  have hnil := fun wx => Lib.run_eql_slice_nil (P := Try.prog) wx 22 9 none 0 0 0 0 Try.underlying22
  go_enter Try.func11, Try.ntmps11
  go_wp2
  go_ret
  exact ⟨rfl, rfl⟩

set_option maxHeartbeats 400000 in
/-- A slice that is not nil: a new one with the same strings. -/
theorem copy_some (ss : List ByteArray) (a : Addr) (c : Nat) (w : World) (hrow : SRow w (some a) ss) (hn : ss.length ≤ 65536) :
    Calls Try.prog 11 #[.slice (some a) ss.length c] w fun e w' => e = .returned (.slice (some ⟨w.heap.size, 0, none⟩) ss.length ss.length) ∧
      w'.ownsRow w.heap.size 9 1 (.slice (some ⟨w.heap.size, 0, none⟩) ss.length ss.length) ss.length (ss.map Value.string) ∧ Below w.heap.size w w' := by
  have hnil := fun wx n => Lib.run_eql_slice_nil (P := Try.prog) wx 22 9 (some a) n c 0 0 Try.underlying22
  have HROW : Hid (SRow w (some a) ss) := hrow
  clear hrow
  obtain ⟨i9, hi9, hz0, hz1, hz2⟩ := info_parts Try.info9
  obtain ⟨n, hnn⟩ : ∃ n, n = ss.length := ⟨_, rfl⟩
  have HN : Hid (n = ss.length) := hnn
  rw [← hnn] at hn ⊢
  clear hnn
  go_enter Try.func11, Try.ntmps11
  go_wp2_with (first
    | (at_make; refine wpList_make_full _ rfl _ _ 22 rfl w.heap.size 9 i9 (.string ⟨#[]⟩) 1 Try.underlying22 hi9 hz0 hz1 _ _ _ _ n rfl rfl rfl rfl (by rw [hz2]; omega) (by unfold maxLen; omega) (Nat.le_refl _) ?_; intro w1 hown hgrow)
    | go_in)
  have HO : Hid (w1.ownsRow w.heap.size 9 1 (.slice (some ⟨w.heap.size, 0, none⟩) n n) n (midS ss n 0)) := by
    rw [midS_zero, ← toList_madeCells_one]
    have h := hown
    simp only [Value.cells, Nat.mul_one] at h
    exact h
  have HB1 : Hid (Below w.heap.size w w1) := (Below.refl _ _).grown hgrow (Nat.le_refl _) (fun k hk => by cases hk)
  clear hown hgrow hi9 hz0 hz1 hz2 hnil
  go_loopw [4] (fun jv wr => ∃ j : Nat, j ≤ n ∧ jv = .int .i64 j ∧ wr.ownsRow w.heap.size 9 1 (.slice (some ⟨w.heap.size, 0, none⟩) n n) n (midS ss n j) ∧ Below w.heap.size w wr) (fun jv _ => n - (intOf jv).toNat)
  case atStart => exact ⟨0, by omega, rfl, HO.out, HB1.out⟩
  case round =>
    clear HO HB1
    obtain ⟨j, hj, rfl, hown, hbel⟩ := hrel
    by_cases hlt : j < n
    · have hltS : j < ss.length := by rw [← HN.out]; exact hlt
      obtain ⟨s, hs⟩ : ∃ s, s = ss[j] := ⟨_, rfl⟩
      rcases HROW.out with h0 | ⟨b, off, ha, hb, hc⟩
      · exact absurd hltS (by rw [h0]; simp)
      · simp only [Option.some.injEq] at ha
        subst ha
        have hcs : wr.cell? ⟨b, off + j, none⟩ = some (.string s) := by rw [hs, hbel.cell (by exact hb)]; exact hc j hltS
        obtain ⟨v, hsc⟩ : ∃ v, wr.cell? ⟨w.heap.size, j, none⟩ = some v := by
          have h := hown.cellAt j (by omega)
          have hl := midS_length ss n j HN.out.symm (by omega)
          rw [List.getElem?_eq_getElem (by omega)] at h
          exact ⟨_, h⟩
        have hsf : wr.frozen? ⟨w.heap.size, j, none⟩ = false := hown.frozenAt j
        have R := (hown.stored j (.string s)).1
        rw [midS_set ss n j s HN.out.symm hlt (by rw [hs]; exact List.getElem?_eq_getElem hltS)] at R
        have R2 := hbel.setCell (p := ⟨w.heap.size, j, none⟩) (Nat.le_refl _) (.string s)
        have HR := (show Hid _ from R)
        have HR2 := (show Hid _ from R2)
        clear R R2 hs hc HROW hown hbel
        go_wp2
        go_roundw
        case rel => exact ⟨j + 1, by omega, by go_num, HR.out, HR2.out⟩
        case measure => simp [intOf]; omega
    · obtain rfl : j = n := by omega
      have HO : Hid (wr.ownsRow w.heap.size 9 1 (.slice (some ⟨w.heap.size, 0, none⟩) j j) j (ss.map Value.string)) := by
        have h := hown
        have e := midS_all ss
        rw [← HN.out] at e
        rw [e] at h
        exact h
      have HB : Hid (Below w.heap.size w wr) := hbel
      clear hown hbel
      go_wp2
      go_ret
      exact ⟨rfl, HO.out, HB.out⟩
end Go.Proofs.Qxb6601764a
