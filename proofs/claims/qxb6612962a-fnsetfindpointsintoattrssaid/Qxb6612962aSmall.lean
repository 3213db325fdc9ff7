/-
  Seat b6612962a: the small readers: zzBytes_.. (four), namesOver, distinctSorted, hasName. Walks.
-/
import Derived.Test.Qxb6612962aProg
import Derived.WalkKit
import Derived.Below
import Derived.Deep.QuietTactic
import Derived.BigQuiet
import Derived.Test.Qxb6612962aPlain
namespace Go.Proofs.Qxb6612962a.Sets
open Go.RowKit

/-- A slice of n strings in memory: f says them. -/
def Strs (w : World) (a : Option Addr) (n : Nat) (f : Nat → ByteArray) : Prop :=
  n = 0 ∨ ∃ b off, a = some ⟨b, off, none⟩ ∧ b < w.heap.size ∧ ∀ i, i < n → w.cell? ⟨b, off + i, none⟩ = some (.string (f i))

theorem Strs.drewN {w : World} {a : Option Addr} {n : Nat} {f : Nat → ByteArray} (h : Strs w a n f) (q : Nat) : Strs (w.drewN q) a n f := h

theorem Strs.below {w w' : World} {a : Option Addr} {n : Nat} {f : Nat → ByteArray} (h : Strs w a n f) (hb : Below w.heap.size w w') : Strs w' a n f := by
  rcases h with h | ⟨b, off, h1, h2, h3⟩
  · exact Or.inl h
  · exact Or.inr ⟨b, off, h1, Nat.lt_of_lt_of_le h2 hb.size, fun i hi => (hb.cell (p := ⟨b, off + i, none⟩) h2).trans (h3 i hi)⟩

/-- The call hands back a bool; where it is true, p holds. -/
def RetB (p : Prop) (e : Ending) : Prop := e = .returned (.bool false) ∨ (e = .returned (.bool true) ∧ p)
theorem RetB.no {p : Prop} : RetB p (.returned (.bool false)) := Or.inl rfl
theorem RetB.yes {p : Prop} (h : p) : RetB p (.returned (.bool true)) := Or.inr ⟨rfl, h⟩

/-- At most 2^20 of them. -/
def Few (n : Nat) : Prop := n ≤ 1048576
/-- Every string is one that a row can read. -/
def Sized (n : Nat) (f : Nat → ByteArray) : Prop := n ≤ 9223372036854775807 ∧ ∀ i, i < n → (f i).size ≤ 9223372036854775807

set_option maxHeartbeats 400000 in
theorem zz10 {a : Option Addr} {n : Nat} (c : Nat) {f : Nat → ByteArray} (w : World) (hz : Sized n f) (h : Strs w a n f) :
    Calls Try.prog 10 #[.slice a n c] w fun e w' => RetB (Few n) e ∧ w' = w := by
  obtain ⟨hn, hs⟩ := hz
  rcases h with rfl | ⟨b, off, rfl, -, hc⟩
  · go_enter Try.func10, Try.ntmps10
    go_wp2
    refine wp_loop_rounds 1 ?_
    rw [rounds_succ]
    go_wp2
    go_ret
    exact ⟨RetB.yes (Nat.zero_le _), rfl⟩
  by_cases h1 : n ≤ 1048576
  · go_enter Try.func10, Try.ntmps10
    go_wp2
    go_loop [3, 4] (fun t i => ∃ (k : Nat) (z : Nat), k ≤ n ∧ z ≤ 1048576 ∧ i = .int .i64 k ∧ t = .int .i64 z) (fun _ i => n - (intOf i).toNat)
    case atStart => exact ⟨0, n, Nat.zero_le _, h1, rfl, rfl⟩
    case round =>
      obtain ⟨k, z, hk, hz, rfl, rfl⟩ := hrel
      by_cases hlt : k < n
      · have hcell := hc k hlt
        have hsz := hs k hlt
        go_wp2
        all_goals first
          | (go_ret; exact ⟨RetB.no, rfl⟩)
          | (go_round
             case rel => exact ⟨k + 1, z + (f k).size, by omega, by omega, by go_num, by go_num⟩
             case measure => simp [intOf]; omega)
      · go_wp2
        go_ret
        exact ⟨RetB.yes h1, rfl⟩
  · go_enter Try.func10, Try.ntmps10
    go_wp2
    go_ret
    exact ⟨RetB.no, rfl⟩

set_option maxHeartbeats 400000 in
theorem zz16 {a : Option Addr} {n : Nat} (c : Nat) {f : Nat → ByteArray} (w : World) (hz : Sized n f) (h : Strs w a n f) :
    Calls Try.prog 16 #[.slice a n c] w fun e w' => RetB (Few n) e ∧ w' = w := by
  obtain ⟨hn, hs⟩ := hz
  rcases h with rfl | ⟨b, off, rfl, -, hc⟩
  · go_enter Try.func16, Try.ntmps16
    go_wp2
    refine wp_loop_rounds 1 ?_
    rw [rounds_succ]
    go_wp2
    go_ret
    exact ⟨RetB.yes (Nat.zero_le _), rfl⟩
  by_cases h1 : n ≤ 1048576
  · go_enter Try.func16, Try.ntmps16
    go_wp2
    go_loop [3, 4] (fun t i => ∃ (k : Nat) (z : Nat), k ≤ n ∧ z ≤ 1048576 ∧ i = .int .i64 k ∧ t = .int .i64 z) (fun _ i => n - (intOf i).toNat)
    case atStart => exact ⟨0, n, Nat.zero_le _, h1, rfl, rfl⟩
    case round =>
      obtain ⟨k, z, hk, hz, rfl, rfl⟩ := hrel
      by_cases hlt : k < n
      · have hcell := hc k hlt
        have hsz := hs k hlt
        go_wp2
        all_goals first
          | (go_ret; exact ⟨RetB.no, rfl⟩)
          | (go_round
             case rel => exact ⟨k + 1, z + (f k).size, by omega, by omega, by go_num, by go_num⟩
             case measure => simp [intOf]; omega)
      · go_wp2
        go_ret
        exact ⟨RetB.yes h1, rfl⟩
  · go_enter Try.func16, Try.ntmps16
    go_wp2
    go_ret
    exact ⟨RetB.no, rfl⟩

set_option maxHeartbeats 400000 in
theorem zz20 {a : Option Addr} {n : Nat} (c : Nat) {f : Nat → ByteArray} (w : World) (hz : Sized n f) (h : Strs w a n f) :
    Calls Try.prog 20 #[.slice a n c] w fun e w' => RetB (Few n) e ∧ w' = w := by
  obtain ⟨hn, hs⟩ := hz
  rcases h with rfl | ⟨b, off, rfl, -, hc⟩
  · go_enter Try.func20, Try.ntmps20
    go_wp2
    refine wp_loop_rounds 1 ?_
    rw [rounds_succ]
    go_wp2
    go_ret
    exact ⟨RetB.yes (Nat.zero_le _), rfl⟩
  by_cases h1 : n ≤ 1048576
  · go_enter Try.func20, Try.ntmps20
    go_wp2
    go_loop [3, 4] (fun t i => ∃ (k : Nat) (z : Nat), k ≤ n ∧ z ≤ 1048576 ∧ i = .int .i64 k ∧ t = .int .i64 z) (fun _ i => n - (intOf i).toNat)
    case atStart => exact ⟨0, n, Nat.zero_le _, h1, rfl, rfl⟩
    case round =>
      obtain ⟨k, z, hk, hz, rfl, rfl⟩ := hrel
      by_cases hlt : k < n
      · have hcell := hc k hlt
        have hsz := hs k hlt
        go_wp2
        all_goals first
          | (go_ret; exact ⟨RetB.no, rfl⟩)
          | (go_round
             case rel => exact ⟨k + 1, z + (f k).size, by omega, by omega, by go_num, by go_num⟩
             case measure => simp [intOf]; omega)
      · go_wp2
        go_ret
        exact ⟨RetB.yes h1, rfl⟩
  · go_enter Try.func20, Try.ntmps20
    go_wp2
    go_ret
    exact ⟨RetB.no, rfl⟩

set_option maxHeartbeats 400000 in
theorem zz17 {a : Option Addr} {n : Nat} (c : Nat) {f : Nat → ByteArray} (q : ByteArray) (w : World) (hz : Sized n f) (hq : q.size ≤ 9223372036854775807) (h : Strs w a n f) :
    Calls Try.prog 17 #[.slice a n c, .string q] w fun e w' => RetB (Few n ∧ Few q.size) e ∧ w' = w := by
  obtain ⟨hn, hs⟩ := hz
  by_cases h2 : q.size ≤ 1048576
  · rcases h with rfl | ⟨b, off, rfl, -, hc⟩
    · go_enter Try.func17, Try.ntmps17
      go_wp2
      refine wp_loop_rounds 1 ?_
      rw [rounds_succ]
      go_wp2
      go_ret
      exact ⟨RetB.yes ⟨Nat.zero_le _, h2⟩, rfl⟩
    by_cases h1 : n ≤ 1048576
    · go_enter Try.func17, Try.ntmps17
      go_wp2
      go_loop [5, 6] (fun t i => ∃ (k : Nat) (z : Nat), k ≤ n ∧ z ≤ 1048576 ∧ i = .int .i64 k ∧ t = .int .i64 z) (fun _ i => n - (intOf i).toNat)
      case atStart => exact ⟨0, n, Nat.zero_le _, h1, rfl, rfl⟩
      case round =>
        obtain ⟨k, z, hk, hz, rfl, rfl⟩ := hrel
        by_cases hlt : k < n
        · have hcell := hc k hlt
          have hsz := hs k hlt
          go_wp2
          all_goals first
            | (go_ret; exact ⟨RetB.no, rfl⟩)
            | (go_round
               case rel => exact ⟨k + 1, z + (f k).size, by omega, by omega, by go_num, by go_num⟩
               case measure => simp [intOf]; omega)
        · go_wp2
          all_goals go_ret
          all_goals first | exact ⟨RetB.yes ⟨h1, h2⟩, rfl⟩ | exact ⟨RetB.no, rfl⟩
    · go_enter Try.func17, Try.ntmps17
      go_wp2
      go_ret
      exact ⟨RetB.no, rfl⟩
  · rcases h with rfl | ⟨b, off, rfl, -, hc⟩
    · go_enter Try.func17, Try.ntmps17
      go_wp2
      refine wp_loop_rounds 1 ?_
      rw [rounds_succ]
      go_wp2
      go_ret
      exact ⟨RetB.no, rfl⟩
    by_cases h1 : n ≤ 1048576
    · go_enter Try.func17, Try.ntmps17
      go_wp2
      go_loop [5, 6] (fun t i => ∃ (k : Nat) (z : Nat), k ≤ n ∧ z ≤ 1048576 ∧ i = .int .i64 k ∧ t = .int .i64 z) (fun _ i => n - (intOf i).toNat)
      case atStart => exact ⟨0, n, Nat.zero_le _, h1, rfl, rfl⟩
      case round =>
        obtain ⟨k, z, hk, hz, rfl, rfl⟩ := hrel
        by_cases hlt : k < n
        · have hcell := hc k hlt
          have hsz := hs k hlt
          go_wp2
          all_goals first
            | (go_ret; exact ⟨RetB.no, rfl⟩)
            | (go_round
               case rel => exact ⟨k + 1, z + (f k).size, by omega, by omega, by go_num, by go_num⟩
               case measure => simp [intOf]; omega)
        · go_wp2
          go_ret
          exact ⟨RetB.no, rfl⟩
    · go_enter Try.func17, Try.ntmps17
      go_wp2
      go_ret
      exact ⟨RetB.no, rfl⟩

set_option maxHeartbeats 400000 in
/-- namesOver, under a limit of at most 2^20: some bool. -/
theorem namesOver_any {a : Option Addr} {n : Nat} (c : Nat) {f : Nat → ByteArray} (l : Int) (w : World) (hl : l ≤ 1048576) (hz : Sized n f) (h : Strs w a n f) :
    Calls Try.prog 11 #[.slice a n c, .int .i64 l] w fun e w' => RetB True e ∧ w' = w := by
  obtain ⟨hn, hs⟩ := hz
  by_cases hl0 : l < 0
  · go_enter Try.func11, Try.ntmps11
    go_wp2
    go_ret
    exact ⟨RetB.yes trivial, rfl⟩
  rcases h with rfl | ⟨b, off, rfl, -, hc⟩
  · go_enter Try.func11, Try.ntmps11
    go_wp2
    refine wp_loop_rounds 1 ?_
    rw [rounds_succ]
    go_wp2
    go_ret
    exact ⟨RetB.no, rfl⟩
  · go_enter Try.func11, Try.ntmps11
    go_wp2
    go_loop [5, 6] (fun t i => ∃ (k : Nat) (z : Int), k ≤ n ∧ 0 ≤ z ∧ z ≤ l ∧ i = .int .i64 k ∧ t = .int .i64 z) (fun _ i => n - (intOf i).toNat)
    case atStart => exact ⟨0, 0, Nat.zero_le _, by omega, by omega, rfl, rfl⟩
    case round =>
      obtain ⟨k, z, hk, hz0, hz, rfl, rfl⟩ := hrel
      by_cases hlt : k < n
      · have hcell := hc k hlt
        have hsz := hs k hlt
        go_wp2
        all_goals first
          | (go_ret; exact ⟨RetB.yes trivial, rfl⟩)
          | (go_round
             case rel => exact ⟨k + 1, z + 16 + (f k).size, by omega, by omega, by omega, by go_num, by go_num⟩
             case measure => simp [intOf]; omega)
      · go_wp2
        go_ret
        exact ⟨RetB.no, rfl⟩

/-- No two neighbours among the first m are equal. -/
def Apart (f : Nat → ByteArray) (m : Nat) : Prop := ∀ i, i + 1 < m → f i ≠ f (i + 1)

theorem Apart.snoc {f : Nat → ByteArray} {m : Nat} (h : Apart f (m + 1)) (hne : ((f m).toList == (f (m + 1)).toList) = false) : Apart f (m + 1 + 1) := by
  intro i hi
  by_cases e : i = m
  · subst e
    intro e
    rw [e] at hne
    simp at hne
  · exact h i (by omega)

set_option maxHeartbeats 400000 in
/-- distinctSorted: true only where no two neighbours are equal. -/
theorem distinct_any {a : Option Addr} {n : Nat} (c : Nat) {f : Nat → ByteArray} (w : World) (hn : n ≤ 1048576) (h : Strs w a n f) :
    Calls Try.prog 13 #[.slice a n c] w fun e w' => RetB (Apart f n) e ∧ ∃ q, w' = w.drewN q := by
  rcases h with rfl | ⟨b, off, rfl, -, hc⟩
  · go_enter Try.func13, Try.ntmps13
    go_wp2
    refine wp_loop_rounds 1 ?_
    rw [rounds_succ]
    go_wp2
    go_ret
    exact ⟨RetB.yes (fun i hi => by omega), 0, rfl⟩
  · go_enter Try.func13, Try.ntmps13
    go_wp2
    go_loopw [3] (fun i wr => ∃ (k q : Nat), 1 ≤ k ∧ (k ≤ n ∨ k = 1) ∧ i = .int .i64 k ∧ wr = w.drewN q ∧ Apart f k) (fun i _ => n - (intOf i).toNat)
    case atStart => exact ⟨1, 0, by omega, by omega, rfl, rfl, fun i hi => by omega⟩
    case round =>
      obtain ⟨k, q, hk1, hk, rfl, rfl, hA⟩ := hrel
      by_cases hlt : k < n
      · have h0 := hc k hlt
        obtain ⟨m, rfl⟩ : ∃ m, k = m + 1 := ⟨k - 1, by omega⟩
        have h1 := hc m (by omega)
        go_wp2
        go_quiet (fail)
        go_wp2
        all_goals first
          | (go_ret; exact ⟨RetB.no, q + nq, by simp⟩)
          | exact ⟨⟨m + 1 + 1, q + nq, by omega, by omega, by go_num, rfl, hA.snoc (by assumption)⟩, by simp [intOf]; omega⟩
      · go_wp2
        go_ret
        exact ⟨RetB.yes (fun i hi => hA i (by omega)), q, rfl⟩

/-- s is among the first n. -/
def Has (f : Nat → ByteArray) (n : Nat) (s : ByteArray) : Prop := ∃ i, i < n ∧ f i = s
/-- The call hands back whether p. -/
def RetIff (p : Prop) (e : Ending) : Prop := (p ∧ e = .returned (.bool true)) ∨ (¬ p ∧ e = .returned (.bool false))

set_option maxHeartbeats 400000 in
theorem hasName_any {a : Option Addr} {n : Nat} (c : Nat) {f : Nat → ByteArray} (s : ByteArray) (w : World) (hn : n ≤ 1048576) (h : Strs w a n f) :
    Calls Try.prog 19 #[.slice a n c, .string s] w fun e w' => RetIff (Has f n s) e ∧ w' = w := by
  rcases h with rfl | ⟨b, off, rfl, -, hc⟩
  · go_enter Try.func19, Try.ntmps19
    go_wp2
    refine wp_loop_rounds 1 ?_
    rw [rounds_succ]
    go_wp2
    go_ret
    exact ⟨Or.inr ⟨fun ⟨i, hi, _⟩ => by omega, rfl⟩, rfl⟩
  · go_enter Try.func19, Try.ntmps19
    go_wp2
    go_loop [5] (fun i => ∃ (k : Nat), k ≤ n ∧ i = .int .i64 k ∧ ¬ Has f k s) (fun i => n - (intOf i).toNat)
    case atStart => exact ⟨0, by omega, rfl, fun ⟨i, hi, _⟩ => by omega⟩
    case round =>
      obtain ⟨k, hk, rfl, hA⟩ := hrel
      by_cases hlt : k < n
      · have h0 := hc k hlt
        go_wp2
        · go_ret
          have e : ((f k).toList == s.toList) = true := by assumption
          rw [Plain.eq_iff, decide_eq_true_eq] at e
          exact ⟨Or.inl ⟨⟨k, hlt, e⟩, rfl⟩, rfl⟩
        · have e : ((f k).toList == s.toList) = false := by assumption
          rw [Plain.eq_iff, decide_eq_false_iff_not] at e
          go_round
          case rel =>
            refine ⟨k + 1, by omega, by go_num, fun ⟨i, hi, hs⟩ => ?_⟩
            by_cases hik : i = k
            · subst hik; exact e hs
            · exact hA ⟨i, by omega, hs⟩
          case measure => simp [intOf]; omega
      · go_wp2
        go_ret
        have hkn : k = n := by omega
        subst hkn
        exact ⟨Or.inr ⟨hA, rfl⟩, rfl⟩

end Go.Proofs.Qxb6612962a.Sets
