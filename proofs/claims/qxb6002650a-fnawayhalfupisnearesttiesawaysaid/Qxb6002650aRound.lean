/- The callees of the two rounding laws: zzSmall, zzAbs, ZZAway, zzRoundQuotient, each walked once; and the plain laws on truncating division. -/
import Derived.Test.Qxb6002650aRows
import Derived.WalkKit
import Derived.ProofKit
import Derived.OpenShut
namespace Go.Proofs.Qxb6002650a
open Go.ChangeShapes Go.WideShapes Go.ChangeAt Go.RowKit
set_option linter.unusedVariables false
def smallB (a b : Int) : Bool := decide (-1048576 ≤ a ∧ a ≤ 1048576 ∧ -1048576 ≤ b ∧ b ≤ 1048576 ∧ b ≠ 0)
def absI (v : Int) : Int := if v < 0 then -v else v
theorem ret_bool {a b : Bool} (h : a = b) : Ending.returned (.bool a) = .returned (.bool b) := by rw [h]
theorem ret_int {k : IntKind} {a b : Int} (h : a = b) : Ending.returned (.int k a) = .returned (.int k b) := by rw [h]
theorem small_any (a b : Int) (w : World) :
    Calls Try.prog 17 #[.int .i64 a, .int .i64 b] w fun e w' => e = .returned (.bool (smallB a b)) ∧ w' = w := by
  go_enter Try.func17, Try.ntmps17
  go_wp2
  all_goals (go_ret; refine ⟨ret_bool ?_, rfl⟩; unfold smallB; first | (symm; exact decide_eq_false (by omega)) | skip)
  rw [Bool.eq_iff_iff]; simp; omega
theorem abs_any (v : Int) (h1 : -4611686018427387904 ≤ v) (h2 : v ≤ 4611686018427387904) (w : World) :
    Calls Try.prog 19 #[.int .i64 v] w fun e w' => e = .returned (.int .i64 (absI v)) ∧ w' = w := by
  by_cases h : v < 0
  · have e : -v = absI v := by unfold absI; rw [if_pos h]
    rw [← e]; clear e
    go_enter Try.func19, Try.ntmps19
    go_wp2
    go_ret
    exact ⟨rfl, rfl⟩
  · have e : v = absI v := by unfold absI; rw [if_neg h]
    rw [← e]; clear e
    go_enter Try.func19, Try.ntmps19
    go_wp2
    go_ret
    exact ⟨rfl, rfl⟩
theorem away_floor (neg rem : Bool) (half : Int) (w : World) :
    Calls Try.prog 22 #[.int .i64 1, .bool neg, .bool rem, .int .i64 half] w fun e w' => e = .returned (.bool (neg && rem)) ∧ w' = w := by
  cases neg
  · go_enter Try.func22, Try.ntmps22
    go_wp2
    go_ret
    exact ⟨rfl, rfl⟩
  · go_enter Try.func22, Try.ntmps22
    go_wp2
    go_ret
    exact ⟨rfl, rfl⟩
theorem away_half (neg rem : Bool) (half : Int) (w : World) :
    Calls Try.prog 22 #[.int .i64 0, .bool neg, .bool rem, .int .i64 half] w fun e w' => e = .returned (.bool (decide (0 ≤ half))) ∧ w' = w := by
  go_enter Try.func22, Try.ntmps22
  go_wp2
  go_ret
  exact ⟨rfl, rfl⟩

theorem tdm (a b : Int) (hb : b ≠ 0) : a = a.tdiv b * b + a.tmod b ∧ (0 ≤ a → 0 ≤ a.tmod b) ∧ (a ≤ 0 → a.tmod b ≤ 0) ∧ (0 < b → a.tmod b < b ∧ -b < a.tmod b) ∧ (b < 0 → a.tmod b < -b ∧ b < a.tmod b) := by
  have h := Int.mul_tdiv_add_tmod a b
  rw [Int.mul_comm] at h
  refine ⟨h.symm, fun h0 => Int.tmod_nonneg b h0, fun h0 => ?_, fun h0 => ?_, fun h0 => ?_⟩
  · have := Int.tmod_nonneg b (a := -a) (by omega)
    rw [Int.neg_tmod] at this; omega
  · exact ⟨Int.tmod_lt_of_pos a h0, by have := Int.tmod_lt_of_pos (-a) h0; rw [Int.neg_tmod] at this; omega⟩
  · have h1 := Int.tmod_lt_of_pos a (b := -b) (by omega)
    have h2 := Int.tmod_lt_of_pos (-a) (b := -b) (by omega)
    rw [Int.tmod_neg] at h1 h2
    rw [Int.neg_tmod] at h2
    omega

theorem tdiv_bd (a b : Int) (hb : b ≠ 0) (ha1 : -1048576 ≤ a) (ha2 : a ≤ 1048576) : -1048576 ≤ a.tdiv b ∧ a.tdiv b ≤ 1048576 := by
  have h : (a.tdiv b).natAbs ≤ a.natAbs := by rw [Int.natAbs_tdiv]; exact Nat.div_le_self _ _
  omega
theorem tmod_bd (a b : Int) (ha1 : -1048576 ≤ a) (ha2 : a ≤ 1048576) : -1048576 ≤ a.tmod b ∧ a.tmod b ≤ 1048576 := by
  have h : (a.tmod b).natAbs ≤ a.natAbs := by rw [Int.natAbs_tmod]; exact Nat.mod_le _ _
  omega
theorem absI_bd (v : Int) (n : Int) (h1 : -n ≤ v) (h2 : v ≤ n) : 0 ≤ absI v ∧ absI v ≤ n := by unfold absI; split <;> omega

theorem absI_or (v : Int) : (0 ≤ v ∧ absI v = v) ∨ (v < 0 ∧ absI v = -v) := by unfold absI; split <;> omega
/-- what floor's rounding owes -/
def IsFloor (a b q : Int) : Prop := (-1048577 ≤ q ∧ q ≤ 1048577) ∧ (-4194304 ≤ q * b ∧ q * b ≤ 4194304) ∧ (-4194304 ≤ (q + 1) * b ∧ (q + 1) * b ≤ 4194304) ∧ (0 < b → q * b ≤ a ∧ a < (q + 1) * b) ∧ (b < 0 → a ≤ q * b ∧ (q + 1) * b < a)
theorem fl_same (a b : Int) (ha1 : -1048576 ≤ a) (ha2 : a ≤ 1048576) (hb1 : -1048576 ≤ b) (hb2 : b ≤ 1048576) (hb : b ≠ 0) (h : (a.tmod b != 0) = false ∨ (0 ≤ a ∧ 0 < b) ∨ (a ≤ 0 ∧ b < 0)) : IsFloor a b (a.tdiv b) := by
  obtain ⟨t1, t2, t3, t4, t5⟩ := tdm a b hb
  have hd := tdiv_bd a b hb ha1 ha2
  have hm := tmod_bd a b ha1 ha2
  have h' : a.tmod b = 0 ∨ (0 ≤ a ∧ 0 < b) ∨ (a ≤ 0 ∧ b < 0) := by simpa using h
  unfold IsFloor
  rw [Int.add_mul, Int.one_mul]
  generalize a.tdiv b * b = p at *
  omega
theorem fl_less (a b : Int) (ha1 : -1048576 ≤ a) (ha2 : a ≤ 1048576) (hb1 : -1048576 ≤ b) (hb2 : b ≤ 1048576) (hb : b ≠ 0) (h0 : (a.tmod b != 0) = true) (h : (a < 0 ∧ 0 < b) ∨ (0 < a ∧ b < 0)) : IsFloor a b (a.tdiv b - 1) := by
  obtain ⟨t1, t2, t3, t4, t5⟩ := tdm a b hb
  have hd := tdiv_bd a b hb ha1 ha2
  have hm := tmod_bd a b ha1 ha2
  have h' : a.tmod b ≠ 0 := by simpa using h0
  unfold IsFloor
  rw [Int.add_mul, Int.one_mul, Int.sub_mul, Int.one_mul]
  generalize a.tdiv b * b = p at *
  omega
/-- what rounding half away from zero owes -/
def IsNear (a b q : Int) : Prop := (-1048577 ≤ q ∧ q ≤ 1048577) ∧ (-4194304 ≤ q * b ∧ q * b ≤ 4194304) ∧ absI (2 * (a - q * b)) ≤ absI b ∧ (absI (2 * (a - q * b)) = absI b → absI a < absI (q * b))
theorem nr_same (a b : Int) (ha1 : -1048576 ≤ a) (ha2 : a ≤ 1048576) (hb1 : -1048576 ≤ b) (hb2 : b ≤ 1048576) (hb : b ≠ 0) (h : 2 * absI (a.tmod b) < absI b) : IsNear a b (a.tdiv b) := by
  obtain ⟨t1, t2, t3, t4, t5⟩ := tdm a b hb
  have hd := tdiv_bd a b hb ha1 ha2
  have hm := tmod_bd a b ha1 ha2
  unfold IsNear
  generalize a.tdiv b * b = p at *
  have k1 := absI_or (a.tmod b)
  have k2 := absI_or b
  have k3 := absI_or a
  have k4 := absI_or (2 * (a - p))
  have k5 := absI_or p
  omega
theorem nr_less (a b : Int) (ha1 : -1048576 ≤ a) (ha2 : a ≤ 1048576) (hb1 : -1048576 ≤ b) (hb2 : b ≤ 1048576) (hb : b ≠ 0) (h0 : absI b ≤ 2 * absI (a.tmod b)) (h : (a < 0 ∧ 0 < b) ∨ (0 < a ∧ b < 0)) : IsNear a b (a.tdiv b - 1) := by
  obtain ⟨t1, t2, t3, t4, t5⟩ := tdm a b hb
  have hd := tdiv_bd a b hb ha1 ha2
  have hm := tmod_bd a b ha1 ha2
  unfold IsNear
  rw [Int.sub_mul, Int.one_mul]
  generalize a.tdiv b * b = p at *
  have k1 := absI_or (a.tmod b)
  have k2 := absI_or b
  have k3 := absI_or a
  have k4 := absI_or (2 * (a - (p - b)))
  have k5 := absI_or (p - b)
  omega
theorem nr_more (a b : Int) (ha1 : -1048576 ≤ a) (ha2 : a ≤ 1048576) (hb1 : -1048576 ≤ b) (hb2 : b ≤ 1048576) (hb : b ≠ 0) (h0 : absI b ≤ 2 * absI (a.tmod b)) (h : (0 < a ∧ 0 < b) ∨ (a < 0 ∧ b < 0)) : IsNear a b (a.tdiv b + 1) := by
  obtain ⟨t1, t2, t3, t4, t5⟩ := tdm a b hb
  have hd := tdiv_bd a b hb ha1 ha2
  have hm := tmod_bd a b ha1 ha2
  unfold IsNear
  rw [Int.add_mul, Int.one_mul]
  generalize a.tdiv b * b = p at *
  have k1 := absI_or (a.tmod b)
  have k2 := absI_or b
  have k3 := absI_or a
  have k4 := absI_or (2 * (a - (p + b)))
  have k5 := absI_or (p + b)
  omega


theorem fl_zero (b : Int) (hb1 : -1048576 ≤ b) (hb2 : b ≤ 1048576) (hb : b ≠ 0) : IsFloor 0 b 0 := by
  have := fl_same 0 b (by omega) (by omega) hb1 hb2 hb (.inl (by rw [Int.zero_tmod]; rfl))
  rwa [Int.zero_tdiv] at this
theorem nr_zero (b : Int) (hb1 : -1048576 ≤ b) (hb2 : b ≤ 1048576) (hb : b ≠ 0) : IsNear 0 b 0 := by
  have := nr_same 0 b (by omega) (by omega) hb1 hb2 hb (by rw [Int.zero_tmod]; have := absI_or b; have : absI 0 = 0 := rfl; omega)
  rwa [Int.zero_tdiv] at this
set_option maxHeartbeats 1000000 in
theorem rq_floor (a b : Int) (ha1 : -1048576 ≤ a) (ha2 : a ≤ 1048576) (hb1 : -1048576 ≤ b) (hb2 : b ≤ 1048576) (hb : b ≠ 0) (w : World) :
    Calls Try.prog 18 #[.int .i64 1, .int .i64 a, .int .i64 b] w fun e w' => ∃ q, e = .returned (.int .i64 q) ∧ w' = w ∧ IsFloor a b q := by
  have hb' : (b == 0) = false := by simpa using hb
  have HB : Hid (b ≠ 0) := hb
  obtain ⟨o1, o2⟩ := absI_bd b 1048576 hb1 hb2
  by_cases ha0 : a = 0
  · subst ha0
    have e0 : absI 0 = 0 := rfl
    have o3 : 0 < absI b := by have := absI_or b; omega
    clear hb
    go_enter Try.func18, Try.ntmps18
    go_wp2_with (first
      | (go_at_call 19; refine (abs_any _ (by omega) (by omega) _).mono ?_; rintro e w' ⟨rfl, rfl⟩)
      | (go_at_call 22; refine (away_floor _ _ _ _).mono ?_; rintro e w' ⟨rfl, rfl⟩))
    go_ret
    exact ⟨_, rfl, rfl, fl_zero b hb1 hb2 HB.out⟩
  have ha : (a != 0) = true := by simpa using ha0
  obtain ⟨d1, d2⟩ := tdiv_bd a b hb ha1 ha2
  obtain ⟨m1, m2⟩ := tmod_bd a b ha1 ha2
  obtain ⟨n1, n2⟩ := absI_bd (a.tmod b) 1048576 m1 m2
  have hr : (a.tmod b != 0) = true ∨ (a.tmod b != 0) = false := by cases (a.tmod b != 0) <;> simp
  have hs : b < 0 ∧ decide (b < 0) = true ∨ 0 < b ∧ decide (b < 0) = false := by
    rcases Int.lt_or_gt_of_ne hb with h | h
    · exact .inl ⟨h, decide_eq_true h⟩
    · exact .inr ⟨h, decide_eq_false (by omega)⟩
  clear hb
  rcases Int.lt_or_gt_of_ne ha0 with hA | hA
  · have hA' : decide (a < 0) = true := decide_eq_true hA
    clear ha0
    rcases hr with hr | hr <;> rcases hs with ⟨hs, hs'⟩ | ⟨hs, hs'⟩
    all_goals
      go_enter Try.func18, Try.ntmps18
      go_wp2_with (first
        | (go_at_call 19; refine (abs_any _ (by omega) (by omega) _).mono ?_; rintro e w' ⟨rfl, rfl⟩)
        | (go_at_call 22; refine (away_floor _ _ _ _).mono ?_; rintro e w' ⟨rfl, rfl⟩))
      all_goals
        go_ret
        refine ⟨_, rfl, rfl, ?_⟩
        first
          | exact fl_same a b ha1 ha2 hb1 hb2 HB.out (.inl hr)
          | exact fl_same a b ha1 ha2 hb1 hb2 HB.out (.inr (by omega))
          | exact fl_less a b ha1 ha2 hb1 hb2 HB.out hr (by omega)
  · have hA' : decide (a < 0) = false := decide_eq_false (by omega)
    have hA0 : 0 < a := hA
    have ED : Hid (a.tdiv b = a / b) := Int.tdiv_eq_ediv_of_nonneg (by omega)
    have EM : Hid (a.tmod b = a % b) := Int.tmod_eq_emod_of_nonneg (by omega)
    have d3 := d1
    have d4 := d2
    rw [ED.out] at d3 d4
    rw [EM.out] at m1 m2 n1 n2 hr
    clear ha0 hA
    rcases hr with hr | hr <;> rcases hs with ⟨hs, hs'⟩ | ⟨hs, hs'⟩
    all_goals
      go_enter Try.func18, Try.ntmps18
      go_wp2_with (first
        | (go_at_call 19; refine (abs_any _ (by omega) (by omega) _).mono ?_; rintro e w' ⟨rfl, rfl⟩)
        | (go_at_call 22; refine (away_floor _ _ _ _).mono ?_; rintro e w' ⟨rfl, rfl⟩))
      all_goals
        go_ret
        refine ⟨_, rfl, rfl, ?_⟩
        try rw [← ED.out]
        try rw [← EM.out] at hr
        have hA := hA0
        rw [← EM.out] at n1 n2
        first
          | exact fl_same a b ha1 ha2 hb1 hb2 HB.out (.inl hr)
          | exact fl_same a b ha1 ha2 hb1 hb2 HB.out (.inr (by omega))
          | exact fl_less a b ha1 ha2 hb1 hb2 HB.out hr (by omega)
set_option maxHeartbeats 1000000 in
theorem rq_half (a b : Int) (ha1 : -1048576 ≤ a) (ha2 : a ≤ 1048576) (hb1 : -1048576 ≤ b) (hb2 : b ≤ 1048576) (hb : b ≠ 0) (w : World) :
    Calls Try.prog 18 #[.int .i64 0, .int .i64 a, .int .i64 b] w fun e w' => ∃ q, e = .returned (.int .i64 q) ∧ w' = w ∧ IsNear a b q := by
  have hb' : (b == 0) = false := by simpa using hb
  have HB : Hid (b ≠ 0) := hb
  obtain ⟨o1, o2⟩ := absI_bd b 1048576 hb1 hb2
  by_cases ha0 : a = 0
  · subst ha0
    have e0 : absI 0 = 0 := rfl
    have o3 : 0 < absI b := by have := absI_or b; omega
    clear hb
    go_enter Try.func18, Try.ntmps18
    go_wp2_with (first
      | (go_at_call 19; refine (abs_any _ (by omega) (by omega) _).mono ?_; rintro e w' ⟨rfl, rfl⟩)
      | (go_at_call 22; refine (away_half _ _ _ _).mono ?_; rintro e w' ⟨rfl, rfl⟩))
    go_ret
    exact ⟨_, rfl, rfl, nr_zero b hb1 hb2 HB.out⟩
  have ha : (a != 0) = true := by simpa using ha0
  obtain ⟨d1, d2⟩ := tdiv_bd a b hb ha1 ha2
  obtain ⟨m1, m2⟩ := tmod_bd a b ha1 ha2
  obtain ⟨n1, n2⟩ := absI_bd (a.tmod b) 1048576 m1 m2
  have hr : (a.tmod b != 0) = true ∨ (a.tmod b != 0) = false := by cases (a.tmod b != 0) <;> simp
  have hs : b < 0 ∧ decide (b < 0) = true ∨ 0 < b ∧ decide (b < 0) = false := by
    rcases Int.lt_or_gt_of_ne hb with h | h
    · exact .inl ⟨h, decide_eq_true h⟩
    · exact .inr ⟨h, decide_eq_false (by omega)⟩
  clear hb
  rcases Int.lt_or_gt_of_ne ha0 with hA | hA
  · have hA' : decide (a < 0) = true := decide_eq_true hA
    clear ha0
    rcases hr with hr | hr <;> rcases hs with ⟨hs, hs'⟩ | ⟨hs, hs'⟩
    all_goals
      go_enter Try.func18, Try.ntmps18
      go_wp2_with (first
        | (go_at_call 19; refine (abs_any _ (by omega) (by omega) _).mono ?_; rintro e w' ⟨rfl, rfl⟩)
        | (go_at_call 22; refine (away_half _ _ _ _).mono ?_; rintro e w' ⟨rfl, rfl⟩))
      all_goals
        go_ret
        refine ⟨_, rfl, rfl, ?_⟩
        first
          | exact nr_same a b ha1 ha2 hb1 hb2 HB.out (by omega)
          | exact nr_less a b ha1 ha2 hb1 hb2 HB.out (by omega) (by omega)
          | exact nr_more a b ha1 ha2 hb1 hb2 HB.out (by omega) (by omega)
  · have hA' : decide (a < 0) = false := decide_eq_false (by omega)
    have hA0 : 0 < a := hA
    have ED : Hid (a.tdiv b = a / b) := Int.tdiv_eq_ediv_of_nonneg (by omega)
    have EM : Hid (a.tmod b = a % b) := Int.tmod_eq_emod_of_nonneg (by omega)
    have d3 := d1
    have d4 := d2
    rw [ED.out] at d3 d4
    rw [EM.out] at m1 m2 n1 n2 hr
    clear ha0 hA
    rcases hr with hr | hr <;> rcases hs with ⟨hs, hs'⟩ | ⟨hs, hs'⟩
    all_goals
      go_enter Try.func18, Try.ntmps18
      go_wp2_with (first
        | (go_at_call 19; refine (abs_any _ (by omega) (by omega) _).mono ?_; rintro e w' ⟨rfl, rfl⟩)
        | (go_at_call 22; refine (away_half _ _ _ _).mono ?_; rintro e w' ⟨rfl, rfl⟩))
      all_goals
        go_ret
        refine ⟨_, rfl, rfl, ?_⟩
        try rw [← ED.out]
        try rw [← EM.out] at hr
        have hA := hA0
        rw [← EM.out] at n1 n2
        first
          | exact nr_same a b ha1 ha2 hb1 hb2 HB.out (by first | omega | (rw [EM.out]; omega))
          | exact nr_less a b ha1 ha2 hb1 hb2 HB.out (by first | omega | (rw [EM.out]; omega)) (by omega)
          | exact nr_more a b ha1 ha2 hb1 hb2 HB.out (by first | omega | (rw [EM.out]; omega)) (by omega)
end Go.Proofs.Qxb6002650a
