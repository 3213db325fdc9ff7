/-
  Seat b6613821a: zzOneBit, and the law: walked.
-/
import Derived.Test.Qxb6613821aSet
namespace Go.Proofs.Qxb6613821a.Draws
open Go.RowKit

set_option maxHeartbeats 400000 in
theorem oneBit_any {a : Option Addr} {n : Nat} (c : Nat) (r : Nat) (w : World) (hn : n ≤ 65536) (hr : r ≤ 1048576) (h : IRow .u64 w a n (bit r)) :
    Calls Try.prog 9 #[.slice a n c, .int .i64 n, .int .i32 r] w fun e w' => e = .returned (.bool true) ∧ w' = w := by
  rcases h with rfl | ⟨b, off, rfl, hb, hc⟩
  · go_enter Try.func9, Try.ntmps9
    go_wp2
    refine wp_loop_rounds 1 ?_
    rw [rounds_succ]
    go_wp2
    go_ret
    exact ⟨rfl, rfl⟩
  · go_enter Try.func9, Try.ntmps9
    go_wp2
    go_loop [8] (fun v => ∃ k : Nat, k ≤ n ∧ v = .int .i64 k) (fun v => n - (intOf v).toNat)
    case atStart => exact ⟨0, by omega, rfl⟩
    case round =>
      obtain ⟨k, hk, rfl⟩ := hrel
      by_cases hlt : k < n
      · have c0 := hc k hlt
        by_cases hq : k = r / 64
        · have e0 : bit r k = IntKind.u64.wrap (2 ^ (r % 64)) := by simp [bit, hq]
          rw [e0] at c0
          have t1 : ((k : Int) == (r : Int) / 64) = true := beq_iff_eq.2 (by omega)
          clear e0 hq hc
          go_wp2
          exact ⟨⟨k + 1, by omega, by go_num⟩, by simp [intOf]; omega⟩
        · have e0 : bit r k = 0 := by simp [bit, hq]
          rw [e0] at c0
          have t1 : ((k : Int) == (r : Int) / 64) = false := beq_eq_false_iff_ne.2 (by omega)
          clear e0 hq hc
          go_wp2
          exact ⟨⟨k + 1, by omega, by go_num⟩, by simp [intOf]; omega⟩
      · go_wp2
        go_ret
        exact ⟨rfl, rfl⟩

/-- The call hands back a bool; where it is true, p holds. -/
def RetB (p : Prop) (e : Ending) : Prop := e = .returned (.bool false) ∨ (e = .returned (.bool true) ∧ p)
/-- Both lengths are small. -/
def Few (m n : Nat) : Prop := m ≤ 1048576 ∧ n ≤ 1048576

theorem zz4_any (wd : Int) (a1 : Option Addr) (n1 c1 : Nat) (a2 : Option Addr) (n2 c2 : Nat) (r1 r2 : Int) (w : World) (h1 : n1 ≤ 9223372036854775807) (h2 : n2 ≤ 9223372036854775807) :
    Calls Try.prog 4 #[.int .i64 wd, .slice a1 n1 c1, .slice a2 n2 c2, .int .i32 r1, .int .i32 r2] w fun e w' => RetB (Few n1 n2) e ∧ w' = w := by
  by_cases k1 : n1 ≤ 1048576
  · by_cases k2 : n2 ≤ 1048576
    · go_enter Try.func4, Try.ntmps4
      go_wp2
      all_goals go_ret
      all_goals first | exact ⟨Or.inr ⟨rfl, k1, k2⟩, rfl⟩ | exact ⟨Or.inl rfl, rfl⟩
    · go_enter Try.func4, Try.ntmps4
      go_wp2
      go_ret
      exact ⟨Or.inl rfl, rfl⟩
  · go_enter Try.func4, Try.ntmps4
    go_wp2
    go_ret
    exact ⟨Or.inl rfl, rfl⟩

theorem zz4_in (wd : Int) (a1 : Option Addr) (n1 c1 : Nat) (a2 : Option Addr) (n2 c2 : Nat) (r1 r2 : Int) (w : World) (h : n1 + n2 ≤ 1048576) :
    Calls Try.prog 4 #[.int .i64 wd, .slice a1 n1 c1, .slice a2 n2 c2, .int .i32 r1, .int .i32 r2] w fun e w' => e = .returned (.bool true) ∧ w' = w := by
  go_enter Try.func4, Try.ntmps4
  go_wp2
  go_ret
  exact ⟨rfl, rfl⟩

theorem Dr.below {w w' : World} {D S wd : Nat} {am : Option Addr} {n cm : Nat} (h : Dr w D S wd am n cm) (hb : Below w.heap.size w w') : Dr w' D S wd am n cm :=
  ⟨Nat.lt_of_lt_of_le h.hD hb.size, Nat.lt_of_lt_of_le h.hS hb.size, h.ne, (hb.cell (p := ⟨D, 5, none⟩) h.hD).trans h.mem, (hb.cell (p := ⟨D, 12, none⟩) h.hD).trans h.sing,
    fun i hi => by rw [hb.cell (p := ⟨S, i, none⟩) h.hS]; exact h.room i hi, fun i hi => (hb.frozen (p := ⟨S, i, none⟩) h.hS).trans (h.free i hi)⟩

set_option maxHeartbeats 2000000 in
/-- The law, at an input that is meant. -/
theorem law_in (x y1 y2 : Nat) (a1 : Option Addr) (n1 c1 : Nat) (a2 : Option Addr) (n2 c2 : Nat) {z1 z2 : Nat → Int} (w : World) (k1 : n1 ≤ 262144) (k2 : n2 ≤ 1048576)
    (i1 : IRow .i32 w a1 n1 z1) (i2 : IRow .u64 w a2 n2 z2) (e1 : a1 = none → n1 = 0) (e2 : a2 = none → n2 = 0) (z1l : -2147483648 ≤ z1 y1) (z2l : -2147483648 ≤ z1 y2)
    (t2 : ¬ (1048576 - 4 * (n1 : Int)) / 8 < n2) (t3 : 1 ≤ x) (t4 : x ≤ 65536) (t6 : y1 < n1) (t8 : y2 < n1) (t9 : z1 y1 < 0) (t10 : z1 y2 < 0) (t11 : y1 < 64 * x) (t12 : y2 < 64 * x) :
    Calls Try.prog 3 #[.int .i64 x, .slice a1 n1 c1, .slice a2 n2 c2, .int .i32 y1, .int .i32 y2] w fun e w' => e = .returned (.bool true) ∧ Below w.heap.size w w' := by
  have hc1 := clone5 c1 w (by omega) e1 i1
  have hc2 := fun (w' : World) (hb : Below w.heap.size w w') => clone6 c2 w' k2 e2 (i2.below hb)
  have HC1 : Hid _ := hc1
  have HC2 : Hid _ := hc2
  have HI : Hid (IRow .i32 w a1 n1 z1) := i1
  clear hc1 hc2
  rcases i1 with rfl | ⟨b, off, rfl, hb, hc⟩
  · omega
  have m1 := hc y1 t6
  have m2 := hc y2 t8
  clear hc
  go_enter Try.func3, Try.ntmps3
  go_wp2_with fail
  refine (zz4_in x _ n1 c1 a2 n2 c2 y1 y2 w (by omega)).mono ?_
  rintro e w0 ⟨rfl, rfl⟩
  go_wp2_with fail
  refine Calls.mono HC1.out ?_
  rintro e w1 ⟨am, cm, rfl, hI1, -, hB1⟩
  go_wp2_with fail
  refine Calls.mono (HC2.out w1 hB1) ?_
  rintro e w2 ⟨ap, cp, rfl, -, -, hB2⟩
  clear HC1 HC2 m1 m2 HI
  have hB02 : Below w0.heap.size w0 w2 := hB1.trans (hB2.mono hB1.size)
  have hI2 := hI1.below hB2
  go_wp2_with fail
  refine (new_any x am n1 cm ap n2 cp w2 t4).mono ?_
  rintro e w3 ⟨D, S, rfl, hD3, hS3, hB3⟩
  have hB03 : Below w0.heap.size w0 w3 := hB02.trans (hB3.mono hB02.size)
  have hI3 := hI2.below hB3
  have hne : ∀ b' o', am = some ⟨b', o', none⟩ → b' ≠ S := fun b' o' e => by
    rcases hI2 with h | ⟨b2, o2, h1, h2, -⟩
    · omega
    · rw [e] at h1
      injection h1 with h1
      injection h1 with h1 _
      omega
  have hSw : w0.heap.size ≤ S := Nat.le_trans hB02.size hS3
  clear hI1 hI2 hB1 hB2 hB3 hB02
  go_wp2_with fail
  refine (ZZset_any hD3 hI3 y1 t6 t9 z1l t11 (by omega) t4).mono ?_
  rintro e w4 ⟨rfl, hg4, hD4, hA4⟩
  have hI4 := hI3.grown hg4 hne
  have hB04 : Below w0.heap.size w0 w4 := hB03.grown hg4 hB03.size (fun j e => by cases e; exact hSw)
  have hS4 : S < w4.heap.size := hD4.hS
  clear hI3 hg4 hB03 hD3
  go_wp2_with fail
  refine (clone6 x w4 (by omega) (by simp) hA4).mono ?_
  rintro e w5 ⟨af, cf, rfl, hF5, hN5, hB5⟩
  have hB05 : Below w0.heap.size w0 w5 := hB04.trans (hB5.mono hB04.size)
  have hI5 := hI4.below hB5
  have hD5 := hD4.below hB5
  clear hI4 hD4 hA4 hB5 hB04
  go_wp2_with fail
  refine (ZZset_any hD5 hI5 y2 t8 t10 z2l t12 (by omega) t4).mono ?_
  rintro e w6 ⟨rfl, hg6, -, hA6⟩
  have hF6 := hF5.grown hg6 (fun b' o' e => by have := hN5 b' o' e; omega)
  have hB06 : Below w0.heap.size w0 w6 := hB05.grown hg6 hB05.size (fun j e => by cases e; exact hSw)
  clear hF5 hN5 hg6 hB05 hI5 hD5
  go_wp2_with fail
  refine (clone6 x w6 (by omega) (by simp) hA6).mono ?_
  rintro e w7 ⟨ag, cg, rfl, hG7, -, hB7⟩
  have hB07 : Below w0.heap.size w0 w7 := hB06.trans (hB7.mono hB06.size)
  have hF7 := hF6.below hB7
  have hA7 := hA6.below hB7
  clear hF6 hA6 hB7 hB06 hne
  go_wp2_with fail
  refine (oneBit_any cf y1 w7 t4 (by omega) hF7).mono ?_
  rintro e w8 ⟨rfl, rfl⟩
  go_wp2_with fail
  refine (oneBit_any cg y2 _ t4 (by omega) hG7).mono ?_
  rintro e w9 ⟨rfl, rfl⟩
  go_wp2_with fail
  refine (oneBit_any x y2 _ t4 (by omega) hA7).mono ?_
  rintro e w10 ⟨rfl, rfl⟩
  go_wp2
  go_ret
  exact ⟨rfl, hB07⟩

end Go.Proofs.Qxb6613821a.Draws
