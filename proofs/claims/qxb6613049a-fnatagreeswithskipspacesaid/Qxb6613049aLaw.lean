/-
  Seat b6613049a: the law FnAtAgreesWithSkipSpace: walked.
-/
import Derived.Test.Qxb6613049aSkip
namespace Go.Proofs.Qxb6613049a.Reader
open Go.RowKit

/-- Does byte c stand at k? -/
def atB (s : ByteArray) (k : Nat) (c : UInt8) : Bool := if h : k < s.size then s[k]'h == c else false
/-- A look counts one read where there is a byte. -/
def bump (s : ByteArray) (k : Nat) : Int := if k < s.size then 1 else 0

theorem at_any {w : World} {B : Nat} {s : ByteArray} {k : Nat} {r : Int} (h : Rd w B s k r) (hk : k ≤ s.size) (r0 : 0 ≤ r) (r1 : r ≤ 4294967296) (c : UInt8) :
    Calls Try.prog 18 #[.pointer (some ⟨B, 0, none⟩), .int .u8 c.toNat] w fun e w' => e = .returned (.bool (atB s k c)) ∧ Rd w' B s k (r + bump s k) ∧ w.grownBy w' (some B) := by
  by_cases hlt : k < s.size
  · have e1 : atB s k c = (s[k]'hlt == c) := by simp [atB, hlt]
    have e2 : bump s k = 1 := by simp [bump, hlt]
    rw [e1, e2]
    refine (at_in h hlt r0 r1 c).mono ?_
    rintro e w' ⟨he, q, rfl⟩
    exact ⟨he, (h.setReads _).drewN q, grown_draws (grown_set (World.grownBy.refl _ _) _ _) q⟩
  · have e0 : k = s.size := by omega
    subst e0
    have e1 : atB s s.size c = false := by simp [atB]
    have e2 : bump s s.size = 0 := by simp [bump]
    rw [e1, e2, Int.add_zero]
    refine (at_out h c).mono ?_
    rintro e w' ⟨he, q, rfl⟩
    exact ⟨he, h.drewN q, grown_draws (World.grownBy.refl _ _) q⟩

theorem ZZat_any {w : World} {B : Nat} {s : ByteArray} {k : Nat} {r : Int} (h : Rd w B s k r) (hk : k ≤ s.size) (r0 : 0 ≤ r) (r1 : r ≤ 4294967296) (c : UInt8) :
    Calls Try.prog 8 #[.pointer (some ⟨B, 0, none⟩), .int .u8 c.toNat] w fun e w' => e = .returned (.bool (atB s k c)) ∧ Rd w' B s k (r + bump s k) ∧ w.grownBy w' (some B) := by
  have H := at_any h hk r0 r1 c
  generalize atB s k c = b at H ⊢
  generalize bump s k = m at H ⊢
  clear h
  go_enter Try.func8, Try.ntmps8
  go_wp2_with fail
  refine H.mono ?_
  rintro e w' ⟨rfl, hR, hg⟩
  go_wp2
  go_ret
  exact ⟨rfl, hR, hg⟩

theorem ZZat_sp {w : World} {B : Nat} {s : ByteArray} {k : Nat} {r : Int} (h : Rd w B s k r) (hk : k ≤ s.size) (r0 : 0 ≤ r) (r1 : r ≤ 4294967296) :
    Calls Try.prog 8 #[.pointer (some ⟨B, 0, none⟩), .int .u8 32] w fun e w' => e = .returned (.bool (atB s k 32)) ∧ Rd w' B s k (r + bump s k) ∧ w.grownBy w' (some B) := ZZat_any h hk r0 r1 32
theorem ZZat_tab {w : World} {B : Nat} {s : ByteArray} {k : Nat} {r : Int} (h : Rd w B s k r) (hk : k ≤ s.size) (r0 : 0 ≤ r) (r1 : r ≤ 4294967296) :
    Calls Try.prog 8 #[.pointer (some ⟨B, 0, none⟩), .int .u8 9] w fun e w' => e = .returned (.bool (atB s k 9)) ∧ Rd w' B s k (r + bump s k) ∧ w.grownBy w' (some B) := ZZat_any h hk r0 r1 9

theorem ZZskip_any {w : World} {B : Nat} {s : ByteArray} {p : Nat} {r : Int} (h : Rd w B s p r) (hp : p ≤ s.size) (hs : s.size ≤ 1048576) (r0 : 0 ≤ r) (r1 : r ≤ 1073741824) :
    Calls Try.prog 12 #[.pointer (some ⟨B, 0, none⟩)] w (SkipRet w B s p r) := by
  go_enter Try.func12, Try.ntmps12
  go_wp2_with fail
  refine (skipSpace_any h hp hs r0 r1).mono ?_
  rintro e w' ⟨k, rr, hS, rfl, r⟩
  go_wp2
  go_ret
  exact ⟨k, rr, hS, rfl, r⟩

theorem ZZpos_any {w : World} {B : Nat} {s : ByteArray} {p r : Int} (h : Rd w B s p r) : Calls Try.prog 9 #[.pointer (some ⟨B, 0, none⟩)] w fun e w' => e = .returned (.int .i64 p) ∧ w' = w := by
  have c1 := h.p
  go_enter Try.func9, Try.ntmps9
  go_wp2
  go_ret
  exact ⟨rfl, rfl⟩
theorem ZZreads_any {w : World} {B : Nat} {s : ByteArray} {p r : Int} (h : Rd w B s p r) : Calls Try.prog 10 #[.pointer (some ⟨B, 0, none⟩)] w fun e w' => e = .returned (.int .i64 r) ∧ w' = w := by
  have c1 := h.r
  go_enter Try.func10, Try.ntmps10
  go_wp2
  go_ret
  exact ⟨rfl, rfl⟩
theorem ZZnew_any (s : ByteArray) (p r : Int) (w : World) : Calls Try.prog 7 #[.string s, .int .i64 p, .int .i64 r] w fun e w' => e = .returned (.pointer (some ⟨w.heap.size, 0, none⟩)) ∧ Rd w' w.heap.size s p r ∧ Below w.heap.size w w' ∧ w'.heap.size = w.heap.size + 1 := by
  go_enter Try.func7, Try.ntmps7
  go_wp2
  go_ret
  exact ⟨rfl, ⟨by simp, by simp, by simp, by simp, by simp, by simp⟩, (Below.refl _ _).alloc (Nat.le_refl _) _, by simp⟩
theorem zz6_any (s : ByteArray) (p r : Int) (w : World) (hs : s.size ≤ 1048576) : Calls Try.prog 6 #[.string s, .int .i64 p, .int .i64 r] w fun e w' => e = .returned (.bool true) ∧ w' = w := by
  go_enter Try.func6, Try.ntmps6
  go_wp2
  go_ret
  exact ⟨rfl, rfl⟩

/-- At its end: no white space there. -/
theorem Stop.none {s : ByteArray} {p k : Nat} (h : Stop s p k) : atB s k 32 = false ∧ atB s k 9 = false := by
  unfold atB
  by_cases hk : k < s.size
  · have := h.fin hk
    unfold sp at this
    rw [Bool.or_eq_false_iff] at this
    simp [hk, this.1, this.2]
  · simp [hk]

/-- It moved exactly where white space stood at p. -/
theorem Stop.moved {s : ByteArray} {p k : Nat} (h : Stop s p k) (hp : p ≤ s.size) : decide (p < k) = (atB s p 32 || atB s p 9) := by
  by_cases hlt : p < k
  · have hk : p < s.size := by have := h.hi; omega
    have := h.all p (Nat.le_refl _) hlt hk
    unfold sp at this
    rw [decide_eq_true hlt]
    simp [atB, hk]
    simpa using this.symm
  · have e : k = p := by have := h.lo; omega
    subst e
    have := h.none
    simp [this.1, this.2]

/-- The law's own loop. -/
theorem law_out (s : ByteArray) (p r : Int) (w : World) (h0 : s.size ≤ 9223372036854775807) (h : 1048576 < s.size ∨ p < 0 ∨ (s.size : Int) < p ∨ r < 0 ∨ 1073741824 < r) :
    Calls Try.prog 3 #[.string s, .int .i64 p, .int .i64 r] w fun e w' => e = .returned (.bool true) ∧ Below w.heap.size w w' := by
  by_cases hs : 1048576 < s.size
  · go_enter Try.func3, Try.ntmps3
    go_wp2
    go_ret
    exact ⟨rfl, Below.refl _ _⟩
  by_cases h1 : p < 0
  · go_enter Try.func3, Try.ntmps3
    go_wp2_with fail
    refine (zz6_any s p r w (by omega)).mono ?_
    rintro e w' ⟨rfl, rfl⟩
    go_wp2
    go_ret
    exact ⟨rfl, Below.refl _ _⟩
  by_cases h2 : (s.size : Int) < p
  · go_enter Try.func3, Try.ntmps3
    go_wp2_with fail
    refine (zz6_any s p r w (by omega)).mono ?_
    rintro e w' ⟨rfl, rfl⟩
    go_wp2
    go_ret
    exact ⟨rfl, Below.refl _ _⟩
  by_cases h3 : r < 0
  · go_enter Try.func3, Try.ntmps3
    go_wp2_with fail
    refine (zz6_any s p r w (by omega)).mono ?_
    rintro e w' ⟨rfl, rfl⟩
    go_wp2
    go_ret
    exact ⟨rfl, Below.refl _ _⟩
  have h4 : 1073741824 < r := by omega
  go_enter Try.func3, Try.ntmps3
  go_wp2_with fail
  refine (zz6_any s p r w (by omega)).mono ?_
  rintro e w' ⟨rfl, rfl⟩
  go_wp2
  go_ret
  exact ⟨rfl, Below.refl _ _⟩

set_option maxHeartbeats 2000000 in
theorem law_in (s : ByteArray) (p : Nat) (r : Int) (w : World) (hs : s.size ≤ 1048576) (hp : p ≤ s.size) (r0 : 0 ≤ r) (r1 : r ≤ 1073741824) :
    Calls Try.prog 3 #[.string s, .int .i64 p, .int .i64 r] w fun e w' => e = .returned (.bool true) ∧ Below w.heap.size w w' := by
  obtain ⟨m, hm⟩ : ∃ m, bump s p = m := ⟨_, rfl⟩
  have hm0 : 0 ≤ m ∧ m ≤ 1 := by rw [← hm]; unfold bump; split <;> omega
  go_enter Try.func3, Try.ntmps3
  go_wp2_with fail
  refine (zz6_any s p r w hs).mono ?_
  rintro e w0 ⟨rfl, rfl⟩
  go_wp2_with fail
  refine (ZZnew_any s p r w0).mono ?_
  rintro e w1 ⟨rfl, hR1, hB1, hz1⟩
  go_wp2_with fail
  refine (ZZat_sp hR1 hp r0 (by omega)).mono ?_
  rintro e w2 ⟨rfl, hR2, hg2⟩
  rw [hm] at hR2
  go_wp2_with fail
  refine (ZZat_tab hR2 hp (by omega) (by omega)).mono ?_
  rintro e w3 ⟨rfl, hR3, hg3⟩
  rw [hm] at hR3
  have hB3 : Below w0.heap.size w0 w3 := (hB1.grown hg2 (by omega) (fun k e => by cases e; exact Nat.le_refl _)).grown hg3 (by have := hg2.size; omega) (fun k e => by cases e; exact Nat.le_refl _)
  have hb3 : w0.heap.size < w3.heap.size := hR3.hi
  clear hg2 hg3 hR1 hR2 hB1 hz1
  have hP := ZZpos_any hR3
  have hQ := ZZreads_any hR3
  have key : (m = 1 ∧ p < s.size) ∨ (m = 0 ∧ ¬ p < s.size) := by
    by_cases hlt : p < s.size
    · exact Or.inl ⟨by rw [← hm]; simp [bump, hlt], hlt⟩
    · exact Or.inr ⟨by rw [← hm]; simp [bump, hlt], hlt⟩
  have t1 : ((p : Int) != (p : Int)) = false := by simp
  have t2 : (r + 1 + 1 != r + 2) = false := by simp; omega
  have t3 : (r != r) = false := by simp
  clear hm hm0
  rcases key with ⟨rfl, hlt⟩ | ⟨rfl, hlt⟩
  all_goals
    go_wp2_with fail
    refine hP.mono ?_
    rintro e w4 ⟨rfl, rfl⟩
    go_wp2_with fail
    refine hQ.mono ?_
    rintro e w5 ⟨rfl, rfl⟩
    clear hP hQ hR3
    go_wp2
    go_loop [11] (fun v => ∃ k : Nat, p ≤ k ∧ k ≤ s.size ∧ v = .int .i64 k ∧ AllSp s p k) (fun v => s.size - (intOf v).toNat)
    case atStart => exact ⟨p, by omega, hp, rfl, fun i h1 h2 => by omega⟩
    case round =>
      obtain ⟨k, hpk, hks, rfl, hA⟩ := hrel
      have hcase : (∃ h : k < s.size, sp (s[k]'h) = true) ∨ Stop s p k := by
        by_cases hk : k < s.size
        · cases hsp : sp (s[k]'hk)
          · exact Or.inr ⟨hpk, hks, hA, fun _ => hsp⟩
          · exact Or.inl ⟨hk, hsp⟩
        · exact Or.inr ⟨hpk, hks, hA, fun h => absurd h hk⟩
      rcases hcase with ⟨hk, hsp⟩ | hS
      · have HX : Hid (∀ W : World, Calls Try.prog 11 #[.int .u8 (s[k]'hk).toNat] W fun e w' => e = .returned (.bool true) ∧ w' = W) := fun W => by rw [← hsp]; exact zzIsSpace_any _ W
        have HS : Hid (AllSp s p (k + 1)) := hA.snoc hk hsp
        clear hsp hA t1 t2 t3
        go_wp2_with (go_at_call 11; refine (HX.out _).mono ?_; rintro e wz ⟨rfl, rfl⟩)
        exact ⟨⟨k + 1, by omega, by omega, by go_num, HS.out⟩, by simp [intOf]; omega⟩
      · by_cases hk : k < s.size
        all_goals first
          | (have HX : Hid (∀ W : World, Calls Try.prog 11 #[.int .u8 (s[k]'hk).toNat] W fun e w' => e = .returned (.bool false) ∧ w' = W) := fun W => by rw [← hS.fin hk]; exact zzIsSpace_any _ W
             clear hA
             go_wp2_with (go_at_call 11; refine (HX.out _).mono ?_; rintro e wz ⟨rfl, rfl⟩)
             clear HX)
          | (clear hA; go_wp2_with fail)
        all_goals
          refine (ZZnew_any s p r _).mono ?_
          rintro e w6 ⟨rfl, hR6, hB6, hz6⟩
          go_wp2_with fail
          refine (ZZskip_any hR6 hp hs r0 r1).mono ?_
          rintro e w7 ⟨k', rr, hS', rfl, hR7, q0, q1, hg7⟩
          have hkk := hS'.unique hS
          rw [hkk] at hR7 ⊢
          have hB8 : Below w0.heap.size w0 w7 := (hB3.trans (hB6.mono hB3.size)).grown hg7 (by have := hB3.size; omega) (fun j e => by cases e; exact hB3.size)
          clear hB6 hg7 hS' hkk hR6 hB3
          rw [hS.moved hp]
          have hn1 := hS.none.1
          have hn2 := hS.none.2
          have hP7 := ZZpos_any hR7
          have hA7 := ZZat_sp hR7 hks q0 (by omega)
          rw [hn1] at hA7
          have t4 : ((k : Int) != (k : Int)) = false := by simp
          have hb0 : 0 ≤ bump s k ∧ bump s k ≤ 1 := by unfold bump; split <;> omega
          generalize atB s p 32 = x1
          generalize atB s p 9 = x2
          cases x1 <;> cases x2
        all_goals
          go_wp2_with fail
          refine hP7.mono ?_
          rintro e w8 ⟨rfl, rfl⟩
          go_wp2_with fail
          refine hA7.mono ?_
          rintro e w9 ⟨rfl, hR9, hg9⟩
          have hA9 := ZZat_tab hR9 hks (by omega) (by omega)
          rw [hn2] at hA9
          go_wp2_with fail
          refine hA9.mono ?_
          rintro e w10 ⟨rfl, -, hg10⟩
          have hB10 : Below w0.heap.size w0 w10 := (hB8.grown hg9 hB8.size (fun j e => by cases e; have := hb3; omega)).grown hg10 (by have := hB8.size; have := hg9.size; omega) (fun j e => by cases e; have := hb3; omega)
          clear hA9 hA7 hP7 hR9 hg9 hg10 hB8
          go_wp2
          go_ret
          exact ⟨rfl, hB10⟩
end Go.Proofs.Qxb6613049a.Reader
