/-
  groupBy (14).
-/
import Derived.Test.Qxb6601261aClone
namespace Go.Proofs.Qxb6601261a
open Go.ChangeShapes Go.WideShapes Go.ChangeAt Go.RowKit

/-- Block g is a struct 'groups': its two slices. -/
def Two (w : World) (g : Nat) (x y : Value) : Prop := w.heap[g]? = some (.cells #[x, y] 32 (0, 0))
section
variable {w w' : World} {g : Nat} {x y : Value}
theorem Two.lt (h : Two w g x y) : g < w.heap.size := (Array.getElem?_eq_some_iff.1 h).1
theorem Two.cell0 (h : Two w g x y) : w.cell? ⟨g, 0, none⟩ = some x := by rw [cell_of_row w g 0 _ 32 (0, 0) h]; rfl
theorem Two.cell1 (h : Two w g x y) : w.cell? ⟨g, 1, none⟩ = some y := by rw [cell_of_row w g 1 _ 32 (0, 0) h]; rfl
theorem Two.free (h : Two w g x y) (j : Nat) : w.frozen? ⟨g, j, none⟩ = false := frozen_of_row w g j _ 32 h
theorem Two.keep (h : Two w g x y) (hb : w'.heap[g]? = w.heap[g]?) : Two w' g x y := hb.trans h
theorem Two.other (h : Two w g x y) {a : Addr} {u : Value} (hne : g ≠ a.block) : Two (w.setCell a u) g x y := h.keep (heap_setCell_other w a g u hne)
theorem Two.put1 (h : Two w g x y) (u : Value) : Two (w.setCell ⟨g, 1, none⟩ u) g x u := by
  have := heap_setCell_same w g 1 _ 32 u h
  exact this
theorem Two.grown {row : Option Nat} (h : Two w g x y) (hg : w.grownBy w' row) (hne : some g ≠ row) : Two w' g x y := h.keep (hg.block g h.lt hne)
theorem two_new (w : World) (x y : Value) : Two (w.alloc (.cells #[x, y] 32)) w.heap.size x y := heap_alloc_new w _
theorem Two.alloc (h : Two w g x y) (o : Obj) : Two (w.alloc o) g x y := h.keep (Below.heap_alloc w o g h.lt)
theorem IRow.alloc {n : Nat} {f : Nat → Int} (h : IRow w g n f) (o : Obj) : IRow (w.alloc o) g n f := h.keep (Below.heap_alloc w o g h.lt)
end

/-- The starts while the keys are counted: behind i keys. -/
def c1 (f : Nat → Int) (i k : Nat) : Int := if k = 0 then 0 else Pl.cnt f (k - 1) i
/-- The starts while they are summed: up to k. -/
def c2 (f : Nat → Int) (m k j : Nat) : Int := if j ≤ k then Pl.S f m j else Pl.cnt f (j - 1) m
theorem c1_zero (f : Nat → Int) (k : Nat) : c1 f 0 k = 0 := by simp [c1, Pl.cnt]
theorem c1_miss {f : Nat → Int} {i : Nat} (h : f i < 0) (k : Nat) : c1 f (i + 1) k = c1 f i k := by
  unfold c1
  split
  · rfl
  · rw [Pl.cnt_miss (by omega)]
theorem c1_hit {f : Nat → Int} {i k : Nat} (h : f i = k) (j : Nat) : c1 f (i + 1) j = if j = k + 1 then (Pl.cnt f k i : Int) + 1 else c1 f i j := by
  unfold c1
  by_cases e : j = k + 1
  · subst e
    rw [if_neg (by omega), if_pos rfl, Nat.add_sub_cancel, Pl.cnt_hit h]
    simp
  · rw [if_neg e]
    split
    · rfl
    · rw [Pl.cnt_miss (by omega)]
theorem c1_at (f : Nat → Int) (i k : Nat) : c1 f i (k + 1) = (Pl.cnt f k i : Nat) := by simp [c1]
theorem c2_start (f : Nat → Int) (m j : Nat) : c2 f m 0 j = c1 f m j := by
  unfold c1 c2
  by_cases e : j = 0
  · subst e; simp [Pl.S]
  · rw [if_neg (by omega), if_neg e]
theorem c2_lo (f : Nat → Int) (m k : Nat) : c2 f m k k = (Pl.S f m k : Nat) := by simp [c2]
theorem c2_hi (f : Nat → Int) (m k : Nat) : c2 f m k (k + 1) = (Pl.cnt f k m : Nat) := by
  unfold c2; rw [if_neg (by omega), Nat.add_sub_cancel]
theorem c2_put (f : Nat → Int) (m k j : Nat) : c2 f m (k + 1) j = if j = k + 1 then (Pl.cnt f k m : Int) + (Pl.S f m k : Int) else c2 f m k j := by
  unfold c2
  by_cases e : j = k + 1
  · subst e
    rw [if_pos (Nat.le_refl _), if_pos rfl]
    simp only [Pl.S]
    omega
  · rw [if_neg e]
    by_cases h : j ≤ k
    · rw [if_pos h, if_pos (by omega)]
    · rw [if_neg h, if_neg (by omega)]
theorem c2_end {f : Nat → Int} {m n j : Nat} (h : j < n + 1) : (Pl.S f m j : Int) = c2 f m n j := by
  unfold c2; rw [if_pos (by omega)]

/-- While groupBy works: the row of starts, the result's struct as it was laid, the struct g in block gb. -/
structure GS (w wr : World) (gb n : Nat) (h : Nat → Int) (mem : Value) : Prop where
  st : IRow wr (w.heap.size + 1) (n + 1) h
  t0 : Two wr w.heap.size (.slice none 0 0) (.slice none 0 0)
  tb : Two wr gb (.slice (some ⟨w.heap.size + 1, 0, none⟩) (n + 1) (n + 1)) mem
  gb : w.heap.size + 1 < gb
  bel : Below w.heap.size w wr
section
variable {w wr w' : World} {gb n : Nat} {h h' : Nat → Int} {mem : Value}
theorem GS.congr (G : GS w wr gb n h mem) (hh : ∀ j, h' j = h j) : GS w wr gb n h' mem := ⟨G.st.congr (fun j _ => hh j), G.t0, G.tb, G.gb, G.bel⟩
theorem GS.put (G : GS w wr gb n h mem) {j : Nat} {v : Int} (hh : ∀ i, h' i = if i = j then v else h i) : GS w (wr.setCell ⟨w.heap.size + 1, j, none⟩ (.int .i64 v)) gb n h' mem :=
  ⟨G.st.put (fun i _ => hh i), G.t0.other (by show _ ≠ _ + 1; omega), G.tb.other (by show _ ≠ _ + 1; have := G.gb; omega), G.gb, G.bel.setCell (by show _ ≤ _ + 1; omega) _⟩
theorem GS.drewN (G : GS w wr gb n h mem) (q : Nat) : GS w (wr.drewN q) gb n h mem := ⟨G.st, G.t0, G.tb, G.gb, below_drewN G.bel q⟩
theorem GS.grown (G : GS w wr gb n h mem) (hg : wr.grownBy w' none) : GS w w' gb n h mem :=
  ⟨G.st.grown hg (by simp), G.t0.grown hg (by simp), G.tb.grown hg (by simp), G.gb, G.bel.grown hg (G.bel.size) (fun k hk => by cases hk)⟩
theorem GS.other (G : GS w wr gb n h mem) {g j : Nat} {v : Value} (hg : gb < g) : GS w (wr.setCell ⟨g, j, none⟩ v) gb n h mem :=
  ⟨G.st.other (by show _ ≠ g; have := G.gb; omega), G.t0.other (by show _ ≠ g; have := G.gb; omega), G.tb.other (by show _ ≠ g; omega), G.gb, G.bel.setCell (by show _ ≤ g; have := G.gb; omega) _⟩
theorem GS.box (G : GS w wr gb n h mem) (v : Value) : GS w (wr.setCell ⟨gb, 1, none⟩ v) gb n h v :=
  ⟨G.st.other (by show _ ≠ gb; have := G.gb; omega), G.t0.other (by show _ ≠ gb; have := G.gb; omega), G.tb.put1 v, G.gb, G.bel.setCell (by show _ ≤ gb; have := G.gb; omega) _⟩
end

/-- The members so far: each of the first i numbers that has a key lies in its place. -/
def Put (f : Nat → Int) (m i : Nat) (h : Nat → Int) : Prop := ∀ j, j < i → ∀ k : Nat, f j = k → h (Pl.pos f m k j) = j
theorem put_zero (f : Nat → Int) (m : Nat) (h : Nat → Int) : Put f m 0 h := fun j hj => by omega
theorem put_miss {f : Nat → Int} {m i : Nat} {h : Nat → Int} (H : Put f m i h) (hneg : f i < 0) : Put f m (i + 1) h := by
  intro j hj k hk
  by_cases e : j = i
  · subst e; omega
  · exact H j (by omega) k hk
theorem put_hit {f : Nat → Int} {m i k : Nat} {h : Nat → Int} (H : Put f m i h) (hi : i < m) (hk : f i = k) : Put f m (i + 1) (fun p => if p = Pl.S f m k + Pl.cnt f k i then (i : Int) else h p) := by
  intro j hj k' hk'
  by_cases e : j = i
  · subst e
    obtain rfl : k = k' := by omega
    exact if_pos rfl
  · have hne := Pl.pos_ne (m := m) hi (show j < i by omega) hk hk'
    show (if Pl.pos f m k' j = Pl.S f m k + Pl.cnt f k i then (i : Int) else h (Pl.pos f m k' j)) = j
    rw [if_neg (show ¬ _ = Pl.S f m k + Pl.cnt f k i from hne)]
    exact H j (by omega) k' hk'
theorem fill_miss {f : Nat → Int} {i : Nat} (h : f i < 0) (k : Nat) : (Pl.cnt f k (i + 1) : Int) = Pl.cnt f k i := by rw [Pl.cnt_miss (by omega)]
theorem fill_hit {f : Nat → Int} {i k : Nat} (h : f i = k) (j : Nat) : (Pl.cnt f j (i + 1) : Int) = if j = k then (Pl.cnt f k i : Int) + 1 else Pl.cnt f j i := by
  by_cases e : j = k
  · subst e; rw [if_pos rfl, Pl.cnt_hit h]; simp
  · rw [if_neg e, Pl.cnt_miss (by omega)]

/-- What groupBy leaves: the row of starts, the row of members; nothing that was there has turned. -/
def Grouped (w : World) (n m : Nat) (f : Nat → Int) (mk : Value → Value → Value) (e : Ending) (w' : World) : Prop :=
  ∃ gs gm, ∃ h : Nat → Int, e = .returned (mk (.slice (some ⟨gs, 0, none⟩) (n + 1) (n + 1)) (.slice (some ⟨gm, 0, none⟩) (Pl.S f m n) (Pl.S f m n))) ∧
    IRow w' gs (n + 1) (fun k => Pl.S f m k) ∧ IRow w' gm (Pl.S f m n) h ∧ Put f m m h ∧ Below w.heap.size w w'

set_option maxHeartbeats 1000000 in
set_option maxRecDepth 100000 in
theorem group_any (n m c : Nat) (a : Option Addr) (f : Nat → Int) (w : World) (hrow : Hid (Keys w a m f)) (hn : n ≤ 65536) (hm : m ≤ 65537) (hf : Hid (∀ j, j < m → -1 ≤ f j ∧ f j < n)) :
    Calls Try.prog 14 #[.int .i64 n, .slice a m c] w (Grouped w n m f (fun x y => .agg #[x, y])) := by
  obtain ⟨i3, hi3, hz0, hz1, hz2⟩ := info_parts Try.info3
  go_enter Try.func14, Try.ntmps14
  go_wp2_with (first
    | (at_make; refine wpList_make_full _ rfl _ _ 22 rfl 0 3 i3 (.int .i64 0) 1 Try.underlying22 hi3 hz0 hz1 _ _ _ _ (n + 1) rfl rfl (by omega) (by omega) (by rw [hz2]; omega) (by unfold maxLen; omega) (Nat.zero_le _) ?_; intro w1 hown hgrow)
    | go_in)
  have hr1 : IRow w1 (w.heap.size + 1) (n + 1) (fun _ => 0) := by
    have h := irow_made hown
    simpa using h
  have ht1 : Two w1 w.heap.size (.slice none 0 0) (.slice none 0 0) := (two_new w _ _).grown hgrow (by simp)
  have hb1 : Below w.heap.size w w1 := ((Below.refl _ _).alloc (Nat.le_refl _) _).grown hgrow (by simp) (fun k hk => by cases hk)
  have H0 : Hid (GS w (w1.alloc (.cells #[.slice (some ⟨w.heap.size + 1, 0, none⟩) (n + 1) (n + 1), .slice none 0 0] 32)) w1.heap.size n (c1 f 0) (.slice none 0 0)) :=
    ⟨(hr1.alloc _).congr (fun i _ => c1_zero f i), ht1.alloc _, two_new w1 _ _, hr1.lt, hb1.alloc (by have := hr1.lt; omega) _⟩
  clear hown hgrow hr1 ht1 hb1
  go_loopw [18] (fun iv wr => ∃ i : Nat, i ≤ m ∧ iv = .int .i64 i ∧ GS w wr w1.heap.size n (c1 f i) (.slice none 0 0)) (fun iv _ => m - (intOf iv).toNat)
  case atStart => exact ⟨0, by omega, rfl, H0.out⟩
  case round =>
    clear H0
    obtain ⟨i, him, rfl, G⟩ := hrel
    by_cases hlt : i < m
    · rcases hrow.out with h0 | ⟨b, off, rfl, hb, hc⟩
      · exact absurd hlt (by omega)
      have hfi := hf.out i hlt
      by_cases hneg : f i < 0
      · have hcs : wr.cell? ⟨b, off + i, none⟩ = some (.int .i64 (f i)) := by rw [G.bel.cell (by exact hb)]; exact hc i hlt
        have HR : Hid _ := G.congr (c1_miss hneg)
        clear G hc
        go_wp2
        go_roundw
        case rel => exact ⟨i + 1, by omega, by go_num, HR.out⟩
        case measure => simp [intOf]; omega
      · obtain ⟨k, hk⟩ := Int.eq_ofNat_of_zero_le (by omega : 0 ≤ f i)
        have hkn : k < n := by omega
        have hcs : wr.cell? ⟨b, off + i, none⟩ = some (.int .i64 (k : Int)) := by rw [G.bel.cell (by exact hb), hc i hlt, hk]
        have hcl := Pl.cnt_le f k i
        have hsc : wr.cell? ⟨w.heap.size + 1, k + 1, none⟩ = some (.int .i64 (Pl.cnt f k i : Nat)) := by rw [G.st.cell (by omega), c1_at]
        have hsf := G.st.free (k + 1)
        have hbx := G.tb.cell0
        have HR : Hid _ := G.put (c1_hit hk)
        clear G hc hk hfi hneg
        go_wp2
        go_roundw
        case rel => exact ⟨i + 1, by omega, by go_num, HR.out⟩
        case measure => simp [intOf]; omega
    · obtain rfl : m = i := by omega
      have H1 : Hid (GS w wr w1.heap.size n (c2 f m 0) (.slice none 0 0)) := G.congr (c2_start f m)
      clear G
      go_wp2
      go_loopw [34] (fun kv wx => ∃ k : Nat, k ≤ n ∧ kv = .int .i64 k ∧ GS w wx w1.heap.size n (c2 f m k) (.slice none 0 0)) (fun kv _ => n - (intOf kv).toNat)
      case atStart => exact ⟨0, by omega, rfl, H1.out⟩
      case round =>
        clear H1
        obtain ⟨k, hkn, rfl, G⟩ := hrel
        obtain ⟨wk, hwk⟩ : ∃ wk, wk = wr := ⟨_, rfl⟩
        subst hwk
        by_cases hkl : k < n
        · have hcl := Pl.cnt_le f k m
          have hSl := Pl.S_le f m k
          have hs1 : wk.cell? ⟨w.heap.size + 1, k + 1, none⟩ = some (.int .i64 (Pl.cnt f k m : Nat)) := by rw [G.st.cell (by omega), c2_hi]
          have hs0 : wk.cell? ⟨w.heap.size + 1, k, none⟩ = some (.int .i64 (Pl.S f m k : Nat)) := by rw [G.st.cell (by omega), c2_lo]
          have hsf := G.st.free (k + 1)
          have hbx := G.tb.cell0
          have HR : Hid _ := G.put (c2_put f m k)
          clear G
          go_wp2
          go_region
          all_goals
            go_wp2
            go_roundw
            case rel => exact ⟨k + 1, by omega, by go_num, HR.out.drewN 1⟩
            case measure => simp [intOf]; omega
        · obtain rfl : n = k := by omega
          have H2 : Hid (GS w wk w1.heap.size n (fun j => Pl.S f m j) (.slice none 0 0)) := ⟨G.st.congr (fun j hj => c2_end hj), G.t0, G.tb, G.gb, G.bel⟩
          have hSl := Pl.S_le f m n
          have hbx := G.tb.cell0
          have hsn : wk.cell? ⟨w.heap.size + 1, n, none⟩ = some (.int .i64 (Pl.S f m n : Nat)) := by rw [G.st.cell (by omega), c2_lo]
          clear G
          go_wp2_with (first
            | (at_make; refine wpList_make_full _ rfl (.tmp 55) (.tmp 55) 22 rfl 0 3 i3 (.int .i64 0) 1 Try.underlying22 hi3 hz0 hz1 _ _ _ _ (Pl.S f m n) rfl rfl (by omega) (by omega) (by rw [hz2]; omega) (by unfold maxLen; omega) (Nat.zero_le _) ?_; intro w2 hown2 hgrow2; have G2 := H2.out.grown hgrow2; have hbx1 := G2.tb.cell1; have hbxf := G2.tb.free 1; have hm2 := irow_made hown2; clear hown2 hgrow2)
            | (at_make; refine wpList_make_full _ rfl (.tmp 58) (.tmp 58) 22 rfl 0 3 i3 (.int .i64 0) 1 Try.underlying22 hi3 hz0 hz1 _ _ _ _ n rfl rfl rfl rfl (by rw [hz2]; omega) (by unfold maxLen; omega) (Nat.zero_le _) ?_; intro w3 hown3 hgrow3))
          have hg1 : w1.heap.size < wk.heap.size := H2.out.tb.lt
          have hg2 : wk.heap.size < w2.heap.size := hm2.lt
          have hG3 := (G2.box (.slice (some ⟨wk.heap.size, 0, none⟩) (Pl.S f m n) (Pl.S f m n))).grown hgrow3
          have hM3 := (hm2.other (a := ⟨w1.heap.size, 1, none⟩) (u := .slice (some ⟨wk.heap.size, 0, none⟩) (Pl.S f m n) (Pl.S f m n)) (by show _ ≠ w1.heap.size; omega)).grown hgrow3 (by simp)
          have hF3 : IRow w3 w2.heap.size n (fun k => (Pl.cnt f k 0 : Int)) := (by simpa using irow_made hown3 : IRow w3 w2.heap.size n (fun _ => 0)).congr (fun j _ => by simp [Pl.cnt])
          have H3 : Hid _ := hG3
          have HM3 : Hid _ := hM3
          have HF3 : Hid _ := hF3
          clear hG3 hM3 hF3 hgrow3 hown3 hm2 G2 H2 hbx1 hbxf hbx hsn
          go_loopw [62] (fun iv wr => ∃ i : Nat, ∃ h : Nat → Int, i ≤ m ∧ iv = .int .i64 i ∧ GS w wr w1.heap.size n (fun j => Pl.S f m j) (.slice (some ⟨wk.heap.size, 0, none⟩) (Pl.S f m n) (Pl.S f m n)) ∧ IRow wr wk.heap.size (Pl.S f m n) h ∧ Put f m i h ∧ IRow wr w2.heap.size n (fun k => (Pl.cnt f k i : Int))) (fun iv _ => m - (intOf iv).toNat)
          case atStart => exact ⟨0, _, by omega, rfl, H3.out, HM3.out, put_zero f m _, HF3.out⟩
          case round =>
            clear H3 HM3 HF3
            obtain ⟨i, h, him, rfl, G, HM, HP, HF⟩ := hrel
            by_cases hlt : i < m
            · rcases hrow.out with h0 | ⟨b, off, rfl, hb, hc⟩
              · exact absurd hlt (by omega)
              have hfi := hf.out i hlt
              by_cases hneg : f i < 0
              · have hcs : wr.cell? ⟨b, off + i, none⟩ = some (.int .i64 (f i)) := by rw [G.bel.cell (by exact hb)]; exact hc i hlt
                have HR1 : Hid _ := G
                have HR2 : Hid _ := HM
                have HR3 : Hid _ := put_miss HP hneg
                have HR4 : Hid _ := HF.congr (fun k _ => fill_miss hneg k)
                clear G HM HP HF hc
                go_wp2
                go_roundw
                case rel => exact ⟨i + 1, h, by omega, by go_num, HR1.out, HR2.out, HR3.out, HR4.out⟩
                case measure => simp [intOf]; omega
              · obtain ⟨k, hk⟩ := Int.eq_ofNat_of_zero_le (by omega : 0 ≤ f i)
                have hkn' : k < n := by omega
                have hpos : Pl.S f m k + Pl.cnt f k i < Pl.S f m n := Pl.pos_in hlt hk hkn'
                have hcs : wr.cell? ⟨b, off + i, none⟩ = some (.int .i64 (k : Int)) := by rw [G.bel.cell (by exact hb), hc i hlt, hk]
                have hs0 : wr.cell? ⟨w.heap.size + 1, k, none⟩ = some (.int .i64 (Pl.S f m k : Nat)) := by rw [G.st.cell (by omega)]
                have hf0 : wr.cell? ⟨w2.heap.size, k, none⟩ = some (.int .i64 (Pl.cnt f k i : Nat)) := by rw [HF.cell hkn']
                have hff := HF.free k
                have hm0 := HM.cell hpos
                have hmf := HM.free (Pl.S f m k + Pl.cnt f k i)
                have hbx0 := G.tb.cell0
                have hbx1 := G.tb.cell1
                have hgg : w1.heap.size < w2.heap.size := by omega
                have HR1 : Hid _ := (G.other (j := Pl.S f m k + Pl.cnt f k i) (v := .int .i64 i) hg1).other (j := k) (v := .int .i64 ((Pl.cnt f k i : Nat) + 1)) hgg
                have HR2 : Hid _ := (HM.put (j := Pl.S f m k + Pl.cnt f k i) (v := i) (fun p _ => rfl)).other (a := ⟨w2.heap.size, k, none⟩) (u := .int .i64 ((Pl.cnt f k i : Nat) + 1)) (by show _ ≠ w2.heap.size; omega)
                have HR3 : Hid _ := put_hit HP hlt hk
                have HR4 : Hid _ := (HF.other (a := ⟨wk.heap.size, Pl.S f m k + Pl.cnt f k i, none⟩) (u := .int .i64 i) (by show _ ≠ wk.heap.size; omega)).put (fun j _ => fill_hit hk j)
                clear G HM HP HF hc hk hfi hneg
                generalize Pl.S f m k = sk at *
                generalize Pl.cnt f k i = ck at *
                go_wp2
                go_region
                all_goals
                  go_wp2
                  go_roundw
                  case rel => exact ⟨i + 1, _, by omega, by go_num, HR1.out.drewN 1, HR2.out, HR3.out, HR4.out⟩
                  case measure => simp [intOf]; omega
            · obtain rfl : m = i := by omega
              have hbx0 := G.tb.cell0
              have hbx1 := G.tb.cell1
              have ht0 := G.t0.cell0
              have ht1 := G.t0.cell1
              have hf0 := G.t0.free 0
              have hf1 := G.t0.free 1
              have HG : Hid _ := G
              have HHM : Hid (IRow wr wk.heap.size (Pl.S f m n) h) := HM
              have HHP : Hid _ := HP
              clear G HM HP HF
              have hgb := HG.out.gb
              go_wp2
              refine bodyPost_ret (v := .agg #[.slice (some ⟨w.heap.size + 1, 0, none⟩) (n + 1) (n + 1), .slice (some ⟨wk.heap.size, 0, none⟩) (Pl.S f m n) (Pl.S f m n)]) (by simp [results, Try.results14, go_sem, ht0, ht1]) rfl ⟨w.heap.size + 1, wk.heap.size, h, rfl, ?_, ?_, HHP.out, ?_⟩
              · exact (HG.out.st.other (by show _ ≠ w.heap.size; omega)).other (by show _ ≠ w.heap.size; omega)
              · exact (HHM.out.other (by show _ ≠ w.heap.size; omega)).other (by show _ ≠ w.heap.size; omega)
              · exact (HG.out.bel.setCell (Nat.le_refl _) _).setCell (Nat.le_refl _) _

/-- ZZgroupBy (9). -/
theorem zzGroup_any (n m c : Nat) (a : Option Addr) (f : Nat → Int) (w : World) (hrow : Hid (Keys w a m f)) (hn : n ≤ 65536) (hm : m ≤ 65537) (hf : Hid (∀ j, j < m → -1 ≤ f j ∧ f j < n)) :
    Calls Try.prog 9 #[.int .i64 n, .slice a m c] w (Grouped w n m f (fun x y => .tuple #[x, y])) := by
  have K := group_any n m c a f w hrow hn hm hf
  clear hrow hf
  go_enter Try.func9, Try.ntmps9
  go_wp2_with fail
  refine K.mono ?_
  rintro e w1 ⟨gs, gm, h, rfl, h1, h2, h3, h4⟩
  clear K
  have HG : Hid (∀ o, IRow (w1.alloc o) gs (n + 1) (fun k => Pl.S f m k) ∧ IRow (w1.alloc o) gm (Pl.S f m n) h ∧ Below w.heap.size w (w1.alloc o)) :=
    fun o => ⟨h1.alloc o, h2.alloc o, h4.alloc h4.size o⟩
  have HP : Hid (Put f m m h) := h3
  clear h1 h2 h3 h4
  go_wp2
  go_quiet (fail)
  go_wp2
  go_ret2
  exact ⟨gs, gm, h, rfl, (HG.out _).1, (HG.out _).2.1, HP.out, below_drewN (HG.out _).2.2 nq⟩
end Go.Proofs.Qxb6601261a
