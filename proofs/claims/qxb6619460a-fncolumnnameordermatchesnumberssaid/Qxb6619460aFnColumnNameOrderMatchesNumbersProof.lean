/-
  THE PROOF OF 'Rows.FnColumnNameOrderMatchesNumbersSaid'. The row's step is the frame that the kit's tool wrote for this function; the walk is our own.
-/
import Derived.Test.Qxb6619460aRows
import Derived.WalkKit
import Derived.ProofKit
import Derived.OpenShut
import Derived.ShutString
import Derived.Test.Qxb6619460aWalkF
namespace Go.Proofs.Qxb6619460a.fnColumnNameOrderMatchesNumbers
open Go.ChangeShapes Go.WideShapes Go.ChangeAt Go.RowKit
open Go.ChangeMaps (open_string shut_string)
set_option linter.unusedVariables false      -- a walk need not use every 'w<i>' (that an integer argument fits its kind)

theorem own : ownKnob Try.prog.godebug = none := by kernel_rfl

/-! ### STEP 1: THE WALK: the Go text returns true. 'Below': what was there before the call stays as it was. -/
theorem main (a0 a1 : Int) (r : Int) (h0 : 0 ≤ a0) (h1 : a0 < 9223372036854775807) (g0 : 0 ≤ a1) (g1 : a1 < 9223372036854775807) (w : World)
    (hr : (r = -1 ∧ a0 < a1) ∨ (r = 1 ∧ a1 < a0) ∨ (r = 0 ∧ a0 = a1)) :
    Calls Try.prog 4 #[.int .i64 a0, .int .i64 a1] w fun e w' => e = .returned (.bool true) ∧ Below w.heap.size w w' := by
  have m0 : (a0 == 9223372036854775807) = false := by simp; omega
  have m1 : (a1 == 9223372036854775807) = false := by simp; omega
  have hs : sgn a0 a1 = r := by unfold sgn; rcases hr with ⟨rfl, h⟩ | ⟨rfl, h⟩ | ⟨rfl, h⟩ <;> (repeat' split) <;> omega
  have HS : Hid (sgn a0 a1 = r) := hs
  clear hs
  rcases hr with ⟨rfl, h⟩ | ⟨rfl, h⟩ | ⟨rfl, h⟩
  · have hs' : (sgn a0 a1 == -1) = true := by rw [HS.out]; rfl
    go_enter Try.func4, Try.ntmps4
    go_wp2_with fail
    refine (column_any a0 h0 h1 _).mono ?_
    rintro e w1 ⟨rfl, hbel1⟩
    go_wp2_with fail
    refine (column_any a1 g0 g1 _).mono ?_
    rintro e w2 ⟨rfl, hbel2⟩
    go_wp2_with fail
    refine (width_nm a0 h0 h1 _).mono ?_
    rintro e w3 ⟨rfl, rfl⟩
    go_wp2_with fail
    refine (shortlex_nm a0 a1 h0 h1 g0 g1 _).mono ?_
    rintro e w4 ⟨rfl, hbel4⟩
    go_wp2_with fail
    go_ret
    exact ⟨rfl, (hbel1.trans (hbel2.mono hbel1.size)).trans (hbel4.mono (Nat.le_trans hbel1.size hbel2.size))⟩
  · have hs' : (sgn a0 a1 == 1) = true := by rw [HS.out]; rfl
    have h' : ¬ a0 < a1 := by omega
    go_enter Try.func4, Try.ntmps4
    go_wp2_with fail
    refine (column_any a0 h0 h1 _).mono ?_
    rintro e w1 ⟨rfl, hbel1⟩
    go_wp2_with fail
    refine (column_any a1 g0 g1 _).mono ?_
    rintro e w2 ⟨rfl, hbel2⟩
    go_wp2_with fail
    refine (width_nm a0 h0 h1 _).mono ?_
    rintro e w3 ⟨rfl, rfl⟩
    go_wp2_with fail
    refine (shortlex_nm a0 a1 h0 h1 g0 g1 _).mono ?_
    rintro e w4 ⟨rfl, hbel4⟩
    go_wp2_with fail
    go_ret
    exact ⟨rfl, (hbel1.trans (hbel2.mono hbel1.size)).trans (hbel4.mono (Nat.le_trans hbel1.size hbel2.size))⟩
  · have hs' : (sgn a0 a1 == 0) = true := by rw [HS.out]; rfl
    have h' : ¬ a0 < a1 := by omega
    have h'' : ¬ a1 < a0 := by omega
    clear h
    go_enter Try.func4, Try.ntmps4
    go_wp2_with fail
    refine (column_any a0 h0 h1 _).mono ?_
    rintro e w1 ⟨rfl, hbel1⟩
    go_wp2_with fail
    refine (column_any a1 g0 g1 _).mono ?_
    rintro e w2 ⟨rfl, hbel2⟩
    go_wp2_with fail
    refine (width_nm a0 h0 h1 _).mono ?_
    rintro e w3 ⟨rfl, rfl⟩
    go_wp2_with fail
    refine (shortlex_nm a0 a1 h0 h1 g0 g1 _).mono ?_
    rintro e w4 ⟨rfl, hbel4⟩
    go_wp2_with fail
    go_ret
    exact ⟨rfl, (hbel1.trans (hbel2.mono hbel1.size)).trans (hbel4.mono (Nat.le_trans hbel1.size hbel2.size))⟩

theorem walk (a0 : Int) (a1 : Int) (w0 : (Lit.int .i64 a0).wf = true) (w1 : (Lit.int .i64 a1).wf = true) (w : World) :
    Calls Try.prog 4 #[.int .i64 a0, .int .i64 a1] w fun e w' => e = .returned (.bool true) ∧ Below w.heap.size w w' := by
  have b0 := bounds_i64 w0
  have b1 := bounds_i64 w1
  by_cases c1 : a0 < 0
  · clear b0 b1
    go_enter Try.func4, Try.ntmps4
    go_wp2_with fail
    go_ret
    exact ⟨rfl, Below.refl _ _⟩
  by_cases c2 : a1 < 0
  · clear b0 b1
    go_enter Try.func4, Try.ntmps4
    go_wp2_with fail
    go_ret
    exact ⟨rfl, Below.refl _ _⟩
  by_cases c3 : a0 = 9223372036854775807
  · subst c3
    clear b0 b1
    go_enter Try.func4, Try.ntmps4
    go_wp2_with fail
    go_ret
    exact ⟨rfl, Below.refl _ _⟩
  by_cases c4 : a1 = 9223372036854775807
  · subst c4
    have m0 : (a0 == 9223372036854775807) = false := by simp; omega
    clear b0 b1 c3
    go_enter Try.func4, Try.ntmps4
    go_wp2_with fail
    go_ret
    exact ⟨rfl, Below.refl _ _⟩
  have hr : (sgn a0 a1 = -1 ∧ a0 < a1) ∨ (sgn a0 a1 = 1 ∧ a1 < a0) ∨ (sgn a0 a1 = 0 ∧ a0 = a1) := by
    unfold sgn
    rcases Int.lt_trichotomy a0 a1 with h | h | h
    · left; exact ⟨by rw [if_pos h], h⟩
    · right; right; exact ⟨by rw [if_neg (by omega), if_neg (by omega)], h⟩
    · right; left; exact ⟨by rw [if_neg (by omega), if_pos h], h⟩
  exact main a0 a1 (sgn a0 a1) (by omega) (by omega) (by omega) (by omega) w hr

/-! ### THE ROW's STEP: WRITTEN OUT: LEAVE IT -/
set_option maxRecDepth 100000 in
theorem lifted (os : Os) (started : os.Started) (H : Type) (enc : TypeId × Value → H) :
    ReturnsInHanded {} Try.checked os 4 .any (Rows.fnColumnNameOrderMatchesNumbersSpec.pre6 enc Try.prog Try.f4 Rows.fnColumnNameOrderMatchesNumbersRow.domain false) (Rows.fnColumnNameOrderMatchesNumbersSpec.post enc Try.prog Try.f4 false true false false) := by
  refine returnsInHanded_of_change (C := Try.checked) own started (by kernel_rfl) Try.func4
    (ChangeSpec.witness6 (enc := enc) (C := Try.checked) false ⟨#[], #[.int .i64 0, .int .i64 0], []⟩ 8 (by kernel_rfl) (by kernel_rfl) (by kernel_rfl) (by kernel_rfl)) ?_
  intro W base args ds gs before hval0 hW hcnd _
  have hval : ∀ (j : Nat) t v, Try.f4.params[j]? = some t → args[j]? = some v → Value.okWide Try.prog W .any base t v := hval0
  have hW' := hW
  obtain ⟨p, q, hA0, hV, rfl, hfz, hnd⟩ := hW
  have hA : DataW.TrodAll enc Try.prog W 0 (fun _ => true) true Try.f4.params.toList args.toList ds p := hA0
  rw [Try.params4] at hA hval
  obtain ⟨v0, vs0, d0, ds0, p0, q0, hargs, rfl, rfl, h0, r0⟩ := trodAll_cons hA
  obtain ⟨v1, vs1, d1, ds1, p1, q1, rfl, rfl, rfl, h1, r1⟩ := trodAll_cons r0
  obtain ⟨rfl, rfl, rfl⟩ := trodAll_nil r1
  obtain rfl : args = #[v0, v1] := by cases args; simp_all
  obtain ⟨rfl, rfl⟩ := trodVars_none hV
  obtain ⟨a0, rfl, rfl, rfl, w0⟩ := open_int Try.underlying3 (hval 0 3 v0 rfl rfl) h0
  obtain ⟨a1, rfl, rfl, rfl, w1⟩ := open_int Try.underlying3 (hval 1 3 v1 rfl rfl) h1
  clear hA0 hval0
  refine (walk a0 a1 w0 w1 W).mono fun e W' ⟨he, bel⟩ => ?_
  subst he
  exact ⟨_, rfl, _, _, _, [], _, [], hW', trodAll_mk1 (shut_bool Try.underlying4 _), (trodAll_cons_mk (shut_int Try.underlying3 w0) (trodAll_cons_mk (shut_int Try.underlying3 w1) trodAll_mk0)), rfl, bel.frame _, fun h => by cases h⟩

theorem over : Rows.fnColumnNameOrderMatchesNumbersRow.holds Try.pinned (OpenSpec.ofChange Rows.fnColumnNameOrderMatchesNumbersSpec) :=
  OpenClaim.holds_of_wide 4 Try.f4 rfl rfl rfl rfl rfl rfl rfl ⟨rfl, rfl, rfl, rfl, rfl⟩ rfl rfl rfl rfl rfl (by kernel_rfl) Try.func4 (by kernel_rfl)
    (of_decide_eq_true (by kernel_rfl)) (by unfold Func.isWrapper; first | (rw [if_pos (by decide +kernel)]; kernel_rfl) | (rw [if_neg (by decide +kernel)]; exact ⟨rfl, rfl⟩))
    (fun os started H enc _ => lifted os started H enc)

/-- ████ THE STATEMENT ████ -/
theorem proved : Rows.FnColumnNameOrderMatchesNumbersSaid :=
  over
#print axioms proved
end Go.Proofs.Qxb6619460a.fnColumnNameOrderMatchesNumbers
