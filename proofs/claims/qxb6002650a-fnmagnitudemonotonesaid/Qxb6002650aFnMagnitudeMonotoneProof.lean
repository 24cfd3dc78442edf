/- Laid out by the guide's skeleton tool; the walk typed by hand. -/
import Derived.Test.Qxb6002650aRows
import Derived.WalkKit
import Derived.ProofKit
import Derived.OpenShut
import Derived.ShutString
namespace Go.Proofs.Qxb6002650a.fnMagnitudeMonotone
open Go.ChangeShapes Go.WideShapes Go.ChangeAt Go.RowKit
open Go.ChangeMaps (open_string shut_string)
set_option linter.unusedVariables false      -- a walk need not use every 'w<i>' (that an integer argument fits its kind)

theorem own : ownKnob Try.prog.godebug = none := by kernel_rfl

/-! ### THE CALLEE: ZZMagnitude -/
def mag (a : Int) : Int := if a < 0 then -a else a
theorem mag_neg_num (a : Int) (h1 : -9223372036854775808 ≤ a) (h : a < 0) : IntKind.u64.wrap (-IntKind.u64.wrap a) = mag a := by
  unfold mag
  rw [if_pos h, IntKind.wrap_u64, IntKind.wrap_u64]; omega
theorem mag_any (a : Int) (h1 : -9223372036854775808 ≤ a) (h2 : a ≤ 9223372036854775807) (w : World) :
    Calls Try.prog 16 #[.int .i64 a] w fun e w' => e = .returned (.tuple #[.int .u64 (mag a), .bool (decide (a < 0))]) ∧ w' = w := by
  by_cases h : a < 0
  · have e := mag_neg_num a h1 h
    have d : decide (a < 0) = true := decide_eq_true h
    rw [← e, d]
    clear e d
    go_enter Try.func16, Try.ntmps16
    go_wp2
    go_ret2
    exact ⟨rfl, rfl⟩
  · have e : a = mag a := by unfold mag; rw [if_neg h]
    have d : decide (a < 0) = false := decide_eq_false h
    rw [← e, d]
    clear e d
    go_enter Try.func16, Try.ntmps16
    go_wp2
    go_ret2
    exact ⟨rfl, rfl⟩
theorem ret_bool {b : Bool} (h : b = true) : Ending.returned (.bool b) = .returned (.bool true) := by rw [h]
theorem mag_up {x y : Int} (h0 : 0 ≤ x) (h : x < y) : decide (mag x < mag y) = true := by
  unfold mag; rw [if_neg (by omega), if_neg (by omega)]; exact decide_eq_true h
theorem mag_down {x y : Int} (h0 : y ≤ 0) (h : x < y) : decide (mag y < mag x) = true := by
  refine decide_eq_true ?_
  unfold mag; split <;> split <;> omega


/-! ### STEP 1: THE WALK: the Go text returns true. 'Grown w w'': the world has at most new blocks (Derived/RowKit3.lean). Part the cases AHEAD of 'go_enter' where a test parts the walk; take each callee by a contract of your own. -/
theorem walk (a0 : Int) (a1 : Int) (w0 : (Lit.int .i64 a0).wf = true) (w1 : (Lit.int .i64 a1).wf = true) (w : World) :
    Calls Try.prog 8 #[.int .i64 a0, .int .i64 a1] w fun e w' => e = .returned (.bool true) ∧ Grown w w' := by
  obtain ⟨l0, u0⟩ := bounds_i64 w0
  obtain ⟨l1, u1⟩ := bounds_i64 w1
  clear w0 w1
  by_cases c : a1 < a0
  · go_enter Try.func8, Try.ntmps8
    go_wp2_with (go_at_call 16; refine (mag_any _ (by omega) (by omega) _).mono ?_; rintro e w' ⟨rfl, rfl⟩)
    · go_ret
      exact ⟨ret_bool (mag_up ‹_› c), Grown.refl _⟩
    · go_ret
      exact ⟨ret_bool (mag_down ‹_› c), Grown.refl _⟩
    · go_ret
      exact ⟨rfl, Grown.refl _⟩
  · by_cases c' : a0 = a1
    · subst c'
      go_enter Try.func8, Try.ntmps8
      go_wp2_with (go_at_call 16; refine (mag_any _ (by omega) (by omega) _).mono ?_; rintro e w' ⟨rfl, rfl⟩)
      go_ret
      exact ⟨rfl, Grown.refl _⟩
    · have c2 : a0 < a1 := by omega
      have c3 : (a0 == a1) = false := by simpa using c'
      go_enter Try.func8, Try.ntmps8
      go_wp2_with (go_at_call 16; refine (mag_any _ (by omega) (by omega) _).mono ?_; rintro e w' ⟨rfl, rfl⟩)
      · go_ret
        exact ⟨ret_bool (mag_up ‹_› c2), Grown.refl _⟩
      · go_ret
        exact ⟨ret_bool (mag_down ‹_› c2), Grown.refl _⟩
      · go_ret
        exact ⟨rfl, Grown.refl _⟩

/-! ### THE ROW's STEP: WRITTEN OUT: LEAVE IT -/
set_option maxRecDepth 100000 in
theorem lifted (os : Os) (started : os.Started) (H : Type) (enc : TypeId × Value → H) :
    ReturnsInHanded {} Try.checked os 8 .any (Rows.fnMagnitudeMonotoneSpec.pre6 enc Try.prog Try.f8 Rows.fnMagnitudeMonotoneRow.domain false) (Rows.fnMagnitudeMonotoneSpec.post enc Try.prog Try.f8 false true false false) := by
  refine returnsInHanded_of_change (C := Try.checked) own started (by kernel_rfl) Try.func8
    (ChangeSpec.witness6 (enc := enc) (C := Try.checked) false ⟨#[], #[.int .i64 0, .int .i64 0], []⟩ 8 (by kernel_rfl) (by kernel_rfl) (by kernel_rfl) (by kernel_rfl)) ?_
  intro W base args ds gs before hval0 hW hcnd _
  have hval : ∀ (j : Nat) t v, Try.f8.params[j]? = some t → args[j]? = some v → Value.okWide Try.prog W .any base t v := hval0
  have hW' := hW
  obtain ⟨p, q, hA0, hV, rfl, hfz, hnd⟩ := hW
  have hA : DataW.TrodAll enc Try.prog W 0 (fun _ => true) true Try.f8.params.toList args.toList ds p := hA0
  rw [Try.params8] at hA hval
  obtain ⟨v0, vs0, d0, ds0, p0, q0, hargs, rfl, rfl, h0, r0⟩ := trodAll_cons hA
  obtain ⟨v1, vs1, d1, ds1, p1, q1, rfl, rfl, rfl, h1, r1⟩ := trodAll_cons r0
  obtain ⟨rfl, rfl, rfl⟩ := trodAll_nil r1
  obtain rfl : args = #[v0, v1] := by cases args; simp_all
  obtain ⟨rfl, rfl⟩ := trodVars_none hV
  obtain ⟨a0, rfl, rfl, rfl, w0⟩ := open_int Try.underlying2 (hval 0 2 v0 rfl rfl) h0
  obtain ⟨a1, rfl, rfl, rfl, w1⟩ := open_int Try.underlying2 (hval 1 2 v1 rfl rfl) h1
  clear hA0 hval0
  simp only [List.append_nil] at hW'
  refine (walk a0 a1 w0 w1 W).mono fun e W' ⟨he, hg⟩ => ?_
  subst he
  exact ⟨_, rfl, post_of_same (pa := []) (pv := []) hW' (fun _ _ _ => (trodAll_cons_mk (shut_bool Try.underlying4 _) trodAll_mk0)) (fun sp _ => (trodAll_cons_mk (shut_int Try.underlying2 w0) (trodAll_cons_mk (shut_int Try.underlying2 w1) trodAll_mk0))) (fun _ _ => rfl) rfl
    (hg.frame _) hg.2.1 (ok_one (by kernel_rfl) rfl (okWide_bool_mk Try.underlying4 _))⟩

theorem over : Rows.fnMagnitudeMonotoneRow.holds Try.pinned (OpenSpec.ofChange Rows.fnMagnitudeMonotoneSpec) :=
  OpenClaim.holds_of_wide 8 Try.f8 rfl rfl rfl rfl rfl rfl rfl ⟨rfl, rfl, rfl, rfl, rfl⟩ rfl rfl rfl rfl rfl (by kernel_rfl) Try.func8 (by kernel_rfl)
    (of_decide_eq_true (by kernel_rfl)) (by unfold Func.isWrapper; first | (rw [if_pos (by decide +kernel)]; kernel_rfl) | (rw [if_neg (by decide +kernel)]; exact ⟨rfl, rfl⟩))
    (fun os started H enc _ => lifted os started H enc)

/-- THE STATEMENT -/
theorem proved : Rows.FnMagnitudeMonotoneSaid :=
  over
#print axioms proved
end Go.Proofs.Qxb6002650a.fnMagnitudeMonotone
