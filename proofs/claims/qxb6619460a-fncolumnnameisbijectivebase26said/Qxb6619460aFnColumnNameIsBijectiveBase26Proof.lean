/-
  THE PROOF OF 'Rows.FnColumnNameIsBijectiveBase26Said'. The row's step is the frame that the kit's tool wrote for this function; the walk is our own.
-/
import Derived.Test.Qxb6619460aRows
import Derived.WalkKit
import Derived.ProofKit
import Derived.OpenShut
import Derived.ShutString
import Derived.Test.Qxb6619460aWalkF
namespace Go.Proofs.Qxb6619460a.fnColumnNameIsBijectiveBase26
open Go.ChangeShapes Go.WideShapes Go.ChangeAt Go.RowKit
open Go.ChangeMaps (open_string shut_string)
set_option linter.unusedVariables false      -- a walk need not use every 'w<i>' (that an integer argument fits its kind)

theorem own : ownKnob Try.prog.godebug = none := by kernel_rfl

/-! ### STEP 1: THE WALK: the Go text returns true. 'Below': what was there before the call stays as it was. -/
theorem walk (a0 : Int) (w0 : (Lit.int .i64 a0).wf = true) (w : World) :
    Calls Try.prog 3 #[.int .i64 a0] w fun e w' => e = .returned (.bool true) ∧ Below w.heap.size w w' := by
  have hb : -9223372036854775808 ≤ a0 ∧ a0 ≤ 9223372036854775807 := by
    have := bounds_i64 w0
    omega
  obtain ⟨hb1, hb2⟩ := hb
  by_cases hneg : a0 < 0
  · go_enter Try.func3, Try.ntmps3
    go_wp2_with (go_at_call 5; refine (column_neg _ hb1 hneg _).mono ?_; rintro e w' ⟨rfl, rfl⟩)
    go_ret
    exact ⟨rfl, Below.refl _ _⟩
  · by_cases hmax : a0 = 9223372036854775807
    · subst hmax
      go_enter Try.func3, Try.ntmps3
      go_wp2_with (go_at_call 5; refine (column_max _).mono ?_; rintro e w' ⟨rfl, rfl⟩)
      go_ret
      exact ⟨rfl, Below.refl _ _⟩
    · have h0 : 0 ≤ a0 := by omega
      have h1 : a0 < 9223372036854775807 := by omega
      have hm1 : (a0 == 9223372036854775807) = false := by simp; omega
      clear hmax
      by_cases hlast : a0 + 1 = 9223372036854775807
      · have hl : (a0 + 1 == 9223372036854775807) = true := by simp; omega
        clear hlast
        go_enter Try.func3, Try.ntmps3
        go_wp2_with fail
        refine (column_any a0 h0 h1 _).mono ?_
        rintro e w1 ⟨rfl, hbel1⟩
        go_wp2_with fail
        refine (bij_nm a0 h0 h1 _).mono ?_
        rintro e w2 ⟨rfl, rfl⟩
        go_wp2_with fail
        go_ret
        exact ⟨rfl, hbel1⟩
      · have hl : (a0 + 1 == 9223372036854775807) = false := by simp; omega
        have h2 : a0 + 1 < 9223372036854775807 := by omega
        have h3 : 0 ≤ a0 + 1 := by omega
        clear hlast
        go_enter Try.func3, Try.ntmps3
        go_wp2_with fail
        refine (column_any a0 h0 h1 _).mono ?_
        rintro e w1 ⟨rfl, hbel1⟩
        go_wp2_with fail
        refine (bij_nm a0 h0 h1 _).mono ?_
        rintro e w2 ⟨rfl, rfl⟩
        go_wp2_with fail
        refine (column_any (a0 + 1) h3 h2 _).mono ?_
        rintro e w3 ⟨rfl, hbel3⟩
        go_wp2_with fail
        refine (next_nm a0 h0 h2 _).mono ?_
        rintro e w4 ⟨rfl, hbel4⟩
        go_wp2_with fail
        go_ret
        exact ⟨rfl, (hbel1.trans (hbel3.mono hbel1.size)).trans (hbel4.mono (Nat.le_trans hbel1.size hbel3.size))⟩

/-! ### THE ROW's STEP: WRITTEN OUT: LEAVE IT -/
set_option maxRecDepth 100000 in
theorem lifted (os : Os) (started : os.Started) (H : Type) (enc : TypeId × Value → H) :
    ReturnsInHanded {} Try.checked os 3 .any (Rows.fnColumnNameIsBijectiveBase26Spec.pre6 enc Try.prog Try.f3 Rows.fnColumnNameIsBijectiveBase26Row.domain false) (Rows.fnColumnNameIsBijectiveBase26Spec.post enc Try.prog Try.f3 false true false false) := by
  refine returnsInHanded_of_change (C := Try.checked) own started (by kernel_rfl) Try.func3
    (ChangeSpec.witness6 (enc := enc) (C := Try.checked) false ⟨#[], #[.int .i64 0], []⟩ 8 (by kernel_rfl) (by kernel_rfl) (by kernel_rfl) (by kernel_rfl)) ?_
  intro W base args ds gs before hval0 hW hcnd _
  have hval : ∀ (j : Nat) t v, Try.f3.params[j]? = some t → args[j]? = some v → Value.okWide Try.prog W .any base t v := hval0
  have hW' := hW
  obtain ⟨p, q, hA0, hV, rfl, hfz, hnd⟩ := hW
  have hA : DataW.TrodAll enc Try.prog W 0 (fun _ => true) true Try.f3.params.toList args.toList ds p := hA0
  rw [Try.params3] at hA hval
  obtain ⟨v0, vs0, d0, ds0, p0, q0, hargs, rfl, rfl, h0, r0⟩ := trodAll_cons hA
  obtain ⟨rfl, rfl, rfl⟩ := trodAll_nil r0
  obtain rfl : args = #[v0] := by cases args; simp_all
  obtain ⟨rfl, rfl⟩ := trodVars_none hV
  obtain ⟨a0, rfl, rfl, rfl, w0⟩ := open_int Try.underlying3 (hval 0 3 v0 rfl rfl) h0
  clear hA0 hval0
  refine (walk a0 w0 W).mono fun e W' ⟨he, bel⟩ => ?_
  subst he
  exact ⟨_, rfl, _, _, _, [], _, [], hW', trodAll_mk1 (shut_bool Try.underlying4 _), (trodAll_cons_mk (shut_int Try.underlying3 w0) trodAll_mk0), rfl, bel.frame _, fun h => by cases h⟩

theorem over : Rows.fnColumnNameIsBijectiveBase26Row.holds Try.pinned (OpenSpec.ofChange Rows.fnColumnNameIsBijectiveBase26Spec) :=
  OpenClaim.holds_of_wide 3 Try.f3 rfl rfl rfl rfl rfl rfl rfl ⟨rfl, rfl, rfl, rfl, rfl⟩ rfl rfl rfl rfl rfl (by kernel_rfl) Try.func3 (by kernel_rfl)
    (of_decide_eq_true (by kernel_rfl)) (by unfold Func.isWrapper; first | (rw [if_pos (by decide +kernel)]; kernel_rfl) | (rw [if_neg (by decide +kernel)]; exact ⟨rfl, rfl⟩))
    (fun os started H enc _ => lifted os started H enc)

/-- ████ THE STATEMENT ████ -/
theorem proved : Rows.FnColumnNameIsBijectiveBase26Said :=
  over
#print axioms proved
end Go.Proofs.Qxb6619460a.fnColumnNameIsBijectiveBase26
