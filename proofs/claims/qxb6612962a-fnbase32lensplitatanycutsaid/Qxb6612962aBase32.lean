import Derived.Test.Qxb6612962aProg
import Derived.WalkKit
import Derived.Below
namespace Go.Proofs.Qxb6612962a.Base32
open Go.RowKit

set_option maxHeartbeats 400000 in
theorem base32Len_any (n : Int) (h0 : 1 ≤ n) (h1 : n ≤ 1152921504606846975) (w : World) :
    Calls Try.prog 21 #[.int .i64 n] w fun e w' => e = .returned (.int .i64 ((n * 8 - 1) / 5 + 1)) ∧ w' = w := by
  go_enter Try.func21, Try.ntmps21
  go_wp2
  go_ret
  exact ⟨rfl, rfl⟩

theorem ZZ_any (n : Int) (h0 : 1 ≤ n) (h1 : n ≤ 1152921504606846975) (w : World) :
    Calls Try.prog 9 #[.int .i64 n] w fun e w' => e = .returned (.int .i64 ((n * 8 - 1) / 5 + 1)) ∧ w' = w := by
  go_enter Try.func9, Try.ntmps9
  go_wp2_with (go_at_call 21; refine (base32Len_any _ h0 h1 _).mono ?_; rintro e w' ⟨rfl, rfl⟩)
  go_ret
  exact ⟨rfl, rfl⟩

/-- The contract with the answer under a name of its own, told by two inequalities. -/
theorem ZZ_r (n : Int) (h0 : 1 ≤ n) (h1 : n ≤ 1152921504606846975) (w : World) :
    Calls Try.prog 9 #[.int .i64 n] w fun e w' => ∃ r : Int, 8 * n ≤ 5 * r ∧ 5 * r ≤ 8 * n + 4 ∧ e = .returned (.int .i64 r) ∧ w' = w :=
  (ZZ_any n h0 h1 w).mono fun e w' ⟨he, hw⟩ => ⟨(n * 8 - 1) / 5 + 1, by omega, by omega, he, hw⟩

theorem walk3_out (a0 : Int) (h : a0 < 1 ∨ 1152921504606846970 < a0) (w : World) :
    Calls Try.prog 3 #[.int .i64 a0] w fun e w' => e = .returned (.bool true) ∧ Grown w w' := by
  rcases h with h | h
  · go_enter Try.func3, Try.ntmps3
    go_wp2
    go_ret
    exact ⟨rfl, Grown.refl _⟩
  · have h' : ¬ a0 < 1 := by omega
    go_enter Try.func3, Try.ntmps3
    go_wp2
    go_ret
    exact ⟨rfl, Grown.refl _⟩

theorem walk3_in (a0 : Int) (h0 : 1 ≤ a0) (h1 : a0 ≤ 1152921504606846970) (w : World) :
    Calls Try.prog 3 #[.int .i64 a0] w fun e w' => e = .returned (.bool true) ∧ Grown w w' := by
  go_enter Try.func3, Try.ntmps3
  go_wp2_with fail
  refine (ZZ_r _ (by omega) (by omega) _).mono ?_
  rintro e w' ⟨r, r1, r2, rfl, rfl⟩
  go_wp2_with fail
  refine (ZZ_r _ (by omega) (by omega) _).mono ?_
  rintro e w' ⟨s, s1, s2, rfl, rfl⟩
  have t1 : (s == r + 8) = true := beq_iff_eq.2 (by omega)
  have t2 : 8 * a0 ≤ 5 * r := by omega
  have t3 : 5 * (r - 1) < 8 * a0 := by omega
  go_wp2
  go_ret
  exact ⟨rfl, Grown.refl _⟩

theorem walk4_out (a b : Int) (h : a < 1 ∨ b < 1 ∨ 576460752303423487 < a ∨ 576460752303423487 < b) (w : World) :
    Calls Try.prog 4 #[.int .i64 a, .int .i64 b] w fun e w' => e = .returned (.bool true) ∧ Grown w w' := by
  by_cases c1 : a < 1
  · go_enter Try.func4, Try.ntmps4
    go_wp2
    go_ret
    exact ⟨rfl, Grown.refl _⟩
  by_cases c2 : b < 1
  · go_enter Try.func4, Try.ntmps4
    go_wp2
    go_ret
    exact ⟨rfl, Grown.refl _⟩
  by_cases c3 : 576460752303423487 < a
  · go_enter Try.func4, Try.ntmps4
    go_wp2
    go_ret
    exact ⟨rfl, Grown.refl _⟩
  have c4 : 576460752303423487 < b := by omega
  go_enter Try.func4, Try.ntmps4
  go_wp2
  go_ret
  exact ⟨rfl, Grown.refl _⟩

theorem walk4_in (a b : Int) (h0 : 1 ≤ a) (h1 : a ≤ 576460752303423487) (k0 : 1 ≤ b) (k1 : b ≤ 576460752303423487) (w : World) :
    Calls Try.prog 4 #[.int .i64 a, .int .i64 b] w fun e w' => e = .returned (.bool true) ∧ Grown w w' := by
  go_enter Try.func4, Try.ntmps4
  go_wp2_with fail
  refine (ZZ_r _ (by omega) (by omega) _).mono ?_
  rintro e w' ⟨ra, r1, r2, rfl, rfl⟩
  go_wp2_with fail
  refine (ZZ_r _ (by omega) (by omega) _).mono ?_
  rintro e w' ⟨rb, s1, s2, rfl, rfl⟩
  go_wp2_with fail
  refine (ZZ_r _ (by omega) (by omega) _).mono ?_
  rintro e w' ⟨r, q1, q2, rfl, rfl⟩
  by_cases c : r = ra + rb
  · have t1 : (r == ra + rb) = true := beq_iff_eq.2 c
    have t2 : 8 * (a + b) ≤ 5 * r := by omega
    have t3 : 5 * (r - 1) < 8 * (a + b) := by omega
    clear c
    go_wp2
    go_ret
    exact ⟨rfl, Grown.refl _⟩
  · have t1 : (r == ra + rb) = false := beq_eq_false_iff_ne.2 c
    have t0 : (r == ra + rb - 1) = true := beq_iff_eq.2 (by omega)
    have t2 : 8 * (a + b) ≤ 5 * r := by omega
    have t3 : 5 * (r - 1) < 8 * (a + b) := by omega
    clear c
    go_wp2
    go_ret
    exact ⟨rfl, Grown.refl _⟩
end Go.Proofs.Qxb6612962a.Base32
