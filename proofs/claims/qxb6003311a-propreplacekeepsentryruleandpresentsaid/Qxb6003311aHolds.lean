/- zzHolds, walked once. -/
import Derived.Test.Qxb6003311aRows
import Derived.Test.Qxb6003311aMul
import Derived.WalkKit
import Derived.ProofKit
import Derived.OpenShut
namespace Go.Proofs.Qxb6003311a
open Go.ChangeShapes Go.WideShapes Go.ChangeAt Go.RowKit
set_option linter.unusedVariables false

theorem mul64_int (x y : Int) (hx0 : 0 ≤ x) (hx : x ≤ 9223372036854775807) (hy0 : 0 ≤ y) (hy : y ≤ 9223372036854775807) (w : World) :
    Calls Try.prog 17 #[.int .u64 x, .int .u64 y] w fun e w' => ∃ hi lo : Int, e = .returned (.tuple #[.int .u64 hi, .int .u64 lo]) ∧ w' = w ∧ 0 ≤ hi ∧ 0 ≤ lo ∧ Hid (hi * 18446744073709551616 + lo = x * y) := by
  obtain ⟨a, rfl⟩ := Int.eq_ofNat_of_zero_le hx0
  obtain ⟨b, rfl⟩ := Int.eq_ofNat_of_zero_le hy0
  refine (Try.bits_Mul64 a b (by omega) (by omega) w).mono fun e w' ⟨h1, h2⟩ => ⟨_, _, h1, h2, by omega, by omega, ?_⟩
  show _ = _
  have := Nat.div_add_mod (a * b) 18446744073709551616
  have e : (a : Int) * (b : Int) = ((a * b : Nat) : Int) := (Int.natCast_mul a b).symm
  rw [e]
  generalize a * b = p at *
  omega

/-- A*(n-c) >= c over the integers -/
def holdsB (a n c : Int) : Bool := if a < 0 then false else if a = 0 then decide (c = 0) else decide (c ≤ a * (n - c))
theorem holds_hi {a n c hi lo : Int} (ha : 0 < a) (h1 : 0 < hi) (h2 : 0 ≤ lo) (hc : c ≤ 9223372036854775807) (E : hi * 18446744073709551616 + lo = a * (n - c)) : holdsB a n c = true := by
  unfold holdsB
  rw [if_neg (by omega), if_neg (by omega)]
  exact decide_eq_true (by omega)
theorem holds_lo {a n c hi lo : Int} (ha : 0 < a) (h0 : 0 ≤ hi) (h1 : ¬ 0 < hi) (E : hi * 18446744073709551616 + lo = a * (n - c)) : decide (c ≤ lo) = holdsB a n c := by
  unfold holdsB
  have : hi = 0 := by omega
  subst this
  rw [if_neg (by omega), if_neg (by omega), ← E]
  simp
theorem ret_bool {a b : Bool} (h : a = b) : Ending.returned (.bool a) = .returned (.bool b) := by rw [h]

theorem holds_any (a n c : Int) (ha1 : -9223372036854775808 ≤ a) (ha2 : a ≤ 9223372036854775807) (hc0 : 0 ≤ c) (hcn : c < n) (hn : n ≤ 9223372036854775807) (w : World) :
    Calls Try.prog 6 #[.int .i64 a, .int .i64 n, .int .i64 c] w fun e w' => e = .returned (.bool (holdsB a n c)) ∧ w' = w := by
  by_cases h1 : a < 0
  · have e : holdsB a n c = false := by unfold holdsB; rw [if_pos h1]
    rw [e]; clear e
    go_enter Try.func6, Try.ntmps6
    go_wp2_with fail
    go_ret
    exact ⟨rfl, rfl⟩
  by_cases h2 : a = 0
  · subst h2
    have e : holdsB 0 n c = decide (c = 0) := by unfold holdsB; rw [if_neg (by omega), if_pos rfl]
    rw [e]; clear e
    go_enter Try.func6, Try.ntmps6
    go_wp2_with fail
    go_ret
    exact ⟨ret_bool (by rw [Bool.eq_iff_iff]; simp), rfl⟩
  have h3 : 0 < a := by omega
  have h4 : (a == 0) = false := by simpa using h2
  clear h1 h2
  go_enter Try.func6, Try.ntmps6
  go_wp2_with (go_at_call 17; refine (mul64_int _ _ (by omega) (by omega) (by omega) (by omega) _).mono ?_; rintro e w' ⟨hi, lo, rfl, rfl, k1, k2, E⟩)
  · go_ret
    exact ⟨ret_bool (by rw [decide_eq_false (by omega), Bool.false_or]; exact holds_lo h3 k1 (by omega) E.out), rfl⟩
  · go_ret
    exact ⟨ret_bool (holds_hi h3 ‹_› k2 (by omega) E.out).symm, rfl⟩

/-- the most nodes that can be replaced -/
def mrI (n a : Int) : Int := if n - 1 ≤ a then n - 1 else a * n / (a + 1)
theorem most_any (n a : Int) (hn1 : 1 ≤ n) (hn2 : n ≤ 2147483647) (ha1 : 1 ≤ a) (ha2 : a ≤ 9223372036854775807) (w : World) :
    Calls Try.prog 5 #[.agg #[.int .i64 n, .int .i64 a]] w fun e w' => e = .returned (.int .i64 (mrI n a)) ∧ Grown w w' := by
  unfold mrI
  by_cases h : n - 1 ≤ a
  · rw [if_pos h]
    go_enter Try.func5, Try.ntmps5
    go_wp2
    go_ret
    exact ⟨rfl, by repeat (first | exact Grown.refl _ | apply Grown.drew | apply Grown.alloc)⟩
  · rw [if_neg h]
    have h1 : 0 ≤ a * n := Int.mul_nonneg (by omega) (by omega)
    have h2 : a * n ≤ 4611686018427387904 := by
      have : a * n ≤ 2147483647 * 2147483647 := Int.mul_le_mul (by omega) hn2 (by omega) (by omega)
      omega
    have h3 : a + 1 ≤ 2147483647 := by omega
    have h4 : (a + 1 == 0) = false := by simp; omega
    go_enter Try.func5, Try.ntmps5
    go_wp2
    go_ret
    exact ⟨rfl, by repeat (first | exact Grown.refl _ | apply Grown.drew | apply Grown.alloc)⟩

theorem mr_law (n a : Int) (hn1 : 1 ≤ n) (ha1 : 1 ≤ a) : 0 ≤ mrI n a ∧ mrI n a < n ∧ holdsB a n (mrI n a) = true ∧ (mrI n a + 1 = n ∨ holdsB a n (mrI n a + 1) = false) := by
  unfold mrI holdsB
  rw [if_neg (show ¬ a < 0 by omega), if_neg (show ¬ a = 0 by omega), if_neg (show ¬ a < 0 by omega), if_neg (show ¬ a = 0 by omega)]
  by_cases h : n - 1 ≤ a
  · rw [if_pos h]
    refine ⟨by omega, by omega, decide_eq_true ?_, .inl (by omega)⟩
    rw [show n - (n - 1) = 1 by omega, Int.mul_one]
    exact h
  · rw [if_neg h]
    have hd := Int.mul_ediv_add_emod (a * n) (a + 1)
    have hm1 := Int.emod_nonneg (a * n) (b := a + 1) (by omega)
    have hm2 := Int.emod_lt_of_pos (a * n) (b := a + 1) (by omega)
    have hq : 0 ≤ a * n / (a + 1) := Int.ediv_nonneg (Int.mul_nonneg (by omega) (by omega)) (by omega)
    generalize hQ : a * n / (a + 1) = q at *
    generalize a * n % (a + 1) = r at *
    rw [Int.add_mul, Int.one_mul] at hd
    have hlt : q < n := by
      refine Int.ediv_lt_of_lt_mul (a := a * n) (c := a + 1) (by omega) ?_ |> fun k => by rwa [hQ] at k
      rw [Int.mul_add, Int.mul_one, Int.mul_comm n a]; omega
    refine ⟨hq, hlt, decide_eq_true ?_, .inr (decide_eq_false ?_)⟩
    · rw [Int.mul_sub]; generalize a * n = p at *; generalize a * q = s at *; omega
    · rw [Int.mul_sub, Int.mul_add, Int.mul_one]; generalize a * n = p at *; generalize a * q = s at *; omega
end Go.Proofs.Qxb6003311a
