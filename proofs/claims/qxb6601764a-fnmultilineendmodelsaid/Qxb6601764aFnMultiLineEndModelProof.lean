/-
  'Rows.FnMultiLineEndModelSaid' PROVED, in the kit's own shell.
-/
import Derived.Test.Qxb6601764aRows
import Derived.WalkKit
import Derived.ProofKit
import Derived.OpenShut
import Derived.ShutString
import Derived.Test.Qxb6601764aMultiModel
namespace Go.Proofs.Qxb6601764a.fnMultiLineEndModel
open Go.ChangeShapes Go.WideShapes Go.ChangeAt Go.RowKit
open Go.ChangeMaps (open_string shut_string)
set_option linter.unusedVariables false      -- a walk need not use every 'w<i>' (that an integer argument fits its kind)

theorem own : ownKnob Try.prog.godebug = none := by kernel_rfl

/-! ### STEP 1: THE WALK: the Go text returns true. 'Grown w w'': the world has at most new blocks (Derived/RowKit3.lean). Part the cases AHEAD of 'go_enter' where a test parts the walk; take each callee by a contract of your own. -/
theorem grown_drewN {W w' : World} (h : Grown W w') (n : Nat) : Grown W (w'.drewN n) := h
theorem toList_ne {a b : ByteArray} {l : List UInt8} (hb : b.toList = l) (h : ¬ a = b) : (a.toList == l) = false := by
  rw [beq_eq_false_iff_ne]
  intro e
  apply h
  rw [← hb, ByteArray.toList_eq, ByteArray.toList_eq] at e
  cases a; cases b
  simpa using e

/-- The quotes are one of the two kinds. -/
theorem walk_quotes (a0 : ByteArray) (a1 : Int) (a2 : ByteArray) (q : Nat) (hq : q = 34 ∨ q = 39) (hc : Hid (a2 = Pl.clo q false)) (b1 b2 : Bool) (hb1 : (a2.toList == [34, 34, 34]) = b1) (hb2 : (a2.toList == [39, 39, 39]) = b2) (hbb : (b1 || b2) = true) (hin : -9223372036854775808 ≤ a1 ∧ a1 ≤ 9223372036854775807)
    (h1 : a0.size ≤ 1048576) (h1b : a2.size ≤ 1048576) (h1c : a0.size + a2.size ≤ 1048576) (w : World) :
    Calls Try.prog 8 #[.string a0, .int .i64 a1, .string a2] w fun e w' => e = .returned (.bool true) ∧ Grown w w' := by
  cases b1
  · cases b2
    · cases hbb
    · by_cases h2 : a1 < 0
      · go_enter Try.func8, Try.ntmps8
        go_wp2
        go_ret
        exact ⟨rfl, Grown.refl _⟩
      · obtain ⟨i, rfl⟩ := Int.eq_ofNat_of_zero_le (by omega : 0 ≤ a1)
        go_enter Try.func8, Try.ntmps8
        go_wp2_with (first | (go_at_call 25; refine (multi_any a0 i a2 q _ h1 (by omega) hq hc).mono ?_; rintro e w' ⟨rfl, n, rfl⟩; unfold Pl.mlv) | (go_at_call 22; refine (multiModel_any a0 i a2 q _ h1 (by omega) hq hc).mono ?_; rintro e w' ⟨rfl, rfl⟩; unfold Pl.mlv) | go_in)
        go_ret
        exact ⟨rfl, grown_drewN (Grown.refl _) n⟩
  · by_cases h2 : a1 < 0
    · go_enter Try.func8, Try.ntmps8
      go_wp2
      go_ret
      exact ⟨rfl, Grown.refl _⟩
    · obtain ⟨i, rfl⟩ := Int.eq_ofNat_of_zero_le (by omega : 0 ≤ a1)
      go_enter Try.func8, Try.ntmps8
      go_wp2_with (first | (go_at_call 25; refine (multi_any a0 i a2 q _ h1 (by omega) hq hc).mono ?_; rintro e w' ⟨rfl, n, rfl⟩; unfold Pl.mlv) | (go_at_call 22; refine (multiModel_any a0 i a2 q _ h1 (by omega) hq hc).mono ?_; rintro e w' ⟨rfl, rfl⟩; unfold Pl.mlv) | go_in)
      go_ret
      exact ⟨rfl, grown_drewN (Grown.refl _) n⟩

theorem walk (a0 : ByteArray) (a1 : Int) (a2 : ByteArray) (w0 : a0.size ≤ maxLen) (w1 : (Lit.int .i64 a1).wf = true) (w2 : a2.size ≤ maxLen) (w : World) :
    Calls Try.prog 8 #[.string a0, .int .i64 a1, .string a2] w fun e w' => e = .returned (.bool true) ∧ Grown w w' := by
  have hin := bounds_i64 w1
  by_cases h1 : a0.size ≤ 1048576
  · by_cases h1b : a2.size ≤ 1048576
    · by_cases h1c : a0.size + a2.size ≤ 1048576
      · by_cases hc34 : a2 = ⟨#[34, 34, 34]⟩
        · exact walk_quotes a0 a1 a2 34 (.inl rfl) hc34 true _ (by rw [hc34]; decide +kernel) rfl rfl hin h1 h1b h1c w
        · by_cases hc39 : a2 = ⟨#[39, 39, 39]⟩
          · exact walk_quotes a0 a1 a2 39 (.inr rfl) hc39 _ true rfl (by rw [hc39]; decide +kernel) (by simp) hin h1 h1b h1c w
          · have t1 : (a2.toList == [34, 34, 34]) = false := toList_ne (by decide +kernel) hc34
            have t2 : (a2.toList == [39, 39, 39]) = false := toList_ne (by decide +kernel) hc39
            clear hc34 hc39
            go_enter Try.func8, Try.ntmps8
            go_wp2
            go_ret
            exact ⟨rfl, Grown.refl _⟩
      · go_enter Try.func8, Try.ntmps8
        go_wp2
        go_ret
        exact ⟨rfl, Grown.refl _⟩
    · go_enter Try.func8, Try.ntmps8
      go_wp2
      go_ret
      exact ⟨rfl, Grown.refl _⟩
  · go_enter Try.func8, Try.ntmps8
    go_wp2
    go_ret
    exact ⟨rfl, Grown.refl _⟩

/-! ### THE ROW's STEP: WRITTEN OUT: LEAVE IT -/
set_option maxRecDepth 100000 in
theorem lifted (os : Os) (started : os.Started) (H : Type) (enc : TypeId × Value → H) :
    ReturnsInHanded {} Try.checked os 8 .any (Rows.fnMultiLineEndModelSpec.pre6 enc Try.prog Try.f8 Rows.fnMultiLineEndModelRow.domain false) (Rows.fnMultiLineEndModelSpec.post enc Try.prog Try.f8 false true false false) := by
  refine returnsInHanded_of_change (C := Try.checked) own started (by kernel_rfl) Try.func8
    (ChangeSpec.witness6 (enc := enc) (C := Try.checked) false ⟨#[], #[.string ByteArray.empty, .int .i64 0, .string ByteArray.empty], []⟩ 8 (by kernel_rfl) (by kernel_rfl) (by kernel_rfl) (by kernel_rfl)) ?_
  intro W base args ds gs before hval0 hW hcnd _
  have hval : ∀ (j : Nat) t v, Try.f8.params[j]? = some t → args[j]? = some v → Value.okWide Try.prog W .any base t v := hval0
  have hW' := hW
  obtain ⟨p, q, hA0, hV, rfl, hfz, hnd⟩ := hW
  have hA : DataW.TrodAll enc Try.prog W 0 (fun _ => true) true Try.f8.params.toList args.toList ds p := hA0
  rw [Try.params8] at hA hval
  obtain ⟨v0, vs0, d0, ds0, p0, q0, hargs, rfl, rfl, h0, r0⟩ := trodAll_cons hA
  obtain ⟨v1, vs1, d1, ds1, p1, q1, rfl, rfl, rfl, h1, r1⟩ := trodAll_cons r0
  obtain ⟨v2, vs2, d2, ds2, p2, q2, rfl, rfl, rfl, h2, r2⟩ := trodAll_cons r1
  obtain ⟨rfl, rfl, rfl⟩ := trodAll_nil r2
  obtain rfl : args = #[v0, v1, v2] := by cases args; simp_all
  obtain ⟨rfl, rfl⟩ := trodVars_none hV
  obtain ⟨a0, rfl, rfl, rfl, w0⟩ := open_string Try.underlying9 (hval 0 9 v0 rfl rfl) h0
  obtain ⟨a1, rfl, rfl, rfl, w1⟩ := open_int Try.underlying3 (hval 1 3 v1 rfl rfl) h1
  obtain ⟨a2, rfl, rfl, rfl, w2⟩ := open_string Try.underlying9 (hval 2 9 v2 rfl rfl) h2
  clear hA0 hval0
  simp only [List.append_nil] at hW'
  refine (walk a0 a1 a2 w0 w1 w2 W).mono fun e W' ⟨he, hg⟩ => ?_
  subst he
  exact ⟨_, rfl, post_of_same (pa := []) (pv := []) hW' (fun _ _ _ => (trodAll_cons_mk (shut_bool Try.underlying4 _) trodAll_mk0)) (fun sp _ => (trodAll_cons_mk (shut_string Try.underlying9 w0) (trodAll_cons_mk (shut_int Try.underlying3 w1) (trodAll_cons_mk (shut_string Try.underlying9 w2) trodAll_mk0)))) (fun _ _ => rfl) rfl
    (hg.frame _) hg.2.1 (ok_one (by kernel_rfl) rfl (okWide_bool_mk Try.underlying4 _))⟩

theorem over : Rows.fnMultiLineEndModelRow.holds Try.pinned (OpenSpec.ofChange Rows.fnMultiLineEndModelSpec) :=
  OpenClaim.holds_of_wide 8 Try.f8 rfl rfl rfl rfl rfl rfl rfl ⟨rfl, rfl, rfl, rfl, rfl⟩ rfl rfl rfl rfl rfl (by kernel_rfl) Try.func8 (by kernel_rfl)
    (of_decide_eq_true (by kernel_rfl)) (by unfold Func.isWrapper; first | (rw [if_pos (by decide +kernel)]; kernel_rfl) | (rw [if_neg (by decide +kernel)]; exact ⟨rfl, rfl⟩))
    (fun os started H enc _ => lifted os started H enc)

/-- ████ THE STATEMENT ████ -/
theorem proved : Rows.FnMultiLineEndModelSaid :=
  over
end Go.Proofs.Qxb6601764a.fnMultiLineEndModel
