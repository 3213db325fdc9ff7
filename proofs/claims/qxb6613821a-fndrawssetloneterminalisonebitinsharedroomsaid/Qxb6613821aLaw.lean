/-
  Seat b6613821a: the law where a test says that the input is not meant; and the law whole.
-/
import Derived.Test.Qxb6613821aLawIn
namespace Go.Proofs.Qxb6613821a.Draws
open Go.RowKit

/-- The inputs that the law means. -/
def Meant (wd : Int) (n1 n2 : Nat) (z1 : Nat → Int) (r1 r2 : Int) : Prop :=
  n1 ≤ 262144 ∧ n2 ≤ 1048576 ∧ ¬ (1048576 - 4 * (n1 : Int)) / 8 < n2 ∧ 1 ≤ wd ∧ wd ≤ 65536 ∧ 0 ≤ r1 ∧ r1 < n1 ∧ 0 ≤ r2 ∧ r2 < n1 ∧ z1 r1.toNat < 0 ∧ z1 r2.toNat < 0 ∧ r1 < 64 * wd ∧ r2 < 64 * wd

set_option maxHeartbeats 2000000 in
theorem law_out (wd : Int) (a1 : Option Addr) (n1 c1 : Nat) (a2 : Option Addr) (n2 c2 : Nat) (r1 r2 : Int) {z1 : Nat → Int} (w : World) (hn1 : n1 ≤ 9223372036854775807) (hn2 : n2 ≤ 9223372036854775807)
    (i1 : IRow .i32 w a1 n1 z1) (hr1 : r1 ≤ 2147483647) (hr2 : r2 ≤ 2147483647) (h : ¬ Meant wd n1 n2 z1 r1 r2) :
    Calls Try.prog 3 #[.int .i64 wd, .slice a1 n1 c1, .slice a2 n2 c2, .int .i32 r1, .int .i32 r2] w fun e w' => e = .returned (.bool true) ∧ Below w.heap.size w w' := by
  go_enter Try.func3, Try.ntmps3
  go_wp2_with fail
  refine (zz4_any wd a1 n1 c1 a2 n2 c2 r1 r2 w hn1 hn2).mono ?_
  rintro e w0 ⟨rfl | ⟨rfl, k1, k2⟩, rfl⟩
  · go_wp2
    go_ret
    exact ⟨rfl, Below.refl _ _⟩
  by_cases t1 : 262144 < n1
  · go_wp2
    go_ret
    exact ⟨rfl, Below.refl _ _⟩
  by_cases t2 : (1048576 - 4 * (n1 : Int)) / 8 < n2
  · go_wp2
    go_ret
    exact ⟨rfl, Below.refl _ _⟩
  by_cases t3 : wd < 1
  · go_wp2
    go_ret
    exact ⟨rfl, Below.refl _ _⟩
  by_cases t4 : 65536 < wd
  · go_wp2
    go_ret
    exact ⟨rfl, Below.refl _ _⟩
  by_cases t5 : r1 < 0
  · go_wp2
    go_ret
    exact ⟨rfl, Below.refl _ _⟩
  by_cases t6 : (n1 : Int) ≤ r1
  · go_wp2
    go_ret
    exact ⟨rfl, Below.refl _ _⟩
  by_cases t7 : r2 < 0
  · go_wp2
    go_ret
    exact ⟨rfl, Below.refl _ _⟩
  by_cases t8 : (n1 : Int) ≤ r2
  · go_wp2
    go_ret
    exact ⟨rfl, Below.refl _ _⟩
  obtain ⟨y1, rfl⟩ : ∃ x : Nat, r1 = x := ⟨r1.toNat, by omega⟩
  obtain ⟨y2, rfl⟩ : ∃ x : Nat, r2 = x := ⟨r2.toNat, by omega⟩
  rcases i1 with rfl | ⟨b, off, rfl, hb, hc⟩
  · omega
  have m1 := hc y1 (by omega)
  have m2 := hc y2 (by omega)
  clear hc
  by_cases t9 : 0 ≤ z1 y1
  · go_wp2
    go_ret
    exact ⟨rfl, Below.refl _ _⟩
  by_cases t10 : 0 ≤ z1 y2
  · go_wp2
    go_ret
    exact ⟨rfl, Below.refl _ _⟩
  by_cases t11 : 64 * wd ≤ (y1 : Int)
  · go_wp2
    go_ret
    exact ⟨rfl, Below.refl _ _⟩
  by_cases t12 : 64 * wd ≤ (y2 : Int)
  · go_wp2
    go_ret
    exact ⟨rfl, Below.refl _ _⟩
  exfalso
  exact h ⟨by omega, by omega, t2, by omega, by omega, by omega, by omega, by omega, by omega, by rw [Int.toNat_natCast]; omega, by rw [Int.toNat_natCast]; omega, by omega, by omega⟩

theorem law_walk (wd : Int) (a1 : Option Addr) (n1 c1 : Nat) (a2 : Option Addr) (n2 c2 : Nat) (r1 r2 : Int) {z1 z2 : Nat → Int} (w : World) (hn1 : n1 ≤ 9223372036854775807) (hn2 : n2 ≤ 9223372036854775807)
    (hr1 : r1 ≤ 2147483647) (hr2 : r2 ≤ 2147483647) (i1 : IRow .i32 w a1 n1 z1) (i2 : IRow .u64 w a2 n2 z2) (e1 : a1 = none → n1 = 0) (e2 : a2 = none → n2 = 0) (hz : ∀ i, i < n1 → -2147483648 ≤ z1 i) :
    Calls Try.prog 3 #[.int .i64 wd, .slice a1 n1 c1, .slice a2 n2 c2, .int .i32 r1, .int .i32 r2] w fun e w' => e = .returned (.bool true) ∧ Below w.heap.size w w' := by
  by_cases h : Meant wd n1 n2 z1 r1 r2
  · obtain ⟨h1, h2, h3, h4, h5, h6, h7, h8, h9, h10, h11, h12, h13⟩ := h
    obtain ⟨x, rfl⟩ : ∃ x : Nat, wd = x := ⟨wd.toNat, by omega⟩
    obtain ⟨y1, rfl⟩ : ∃ x : Nat, r1 = x := ⟨r1.toNat, by omega⟩
    obtain ⟨y2, rfl⟩ : ∃ x : Nat, r2 = x := ⟨r2.toNat, by omega⟩
    rw [Int.toNat_natCast] at h10 h11
    exact law_in x y1 y2 a1 n1 c1 a2 n2 c2 w h1 h2 i1 i2 e1 e2 (hz y1 (by omega)) (hz y2 (by omega)) h3 (by omega) (by omega) (by omega) (by omega) h10 h11 (by omega) (by omega)
  · exact law_out wd a1 n1 c1 a2 n2 c2 r1 r2 w hn1 hn2 i1 hr1 hr2 h
end Go.Proofs.Qxb6613821a.Draws
