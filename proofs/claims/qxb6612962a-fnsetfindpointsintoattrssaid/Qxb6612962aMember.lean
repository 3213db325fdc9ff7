/-
  Seat b6612962a: the law FnSetFindIsMembership: walked.
-/
import Derived.Test.Qxb6612962aFind
import Derived.WideLaws
namespace Go.Proofs.Qxb6612962a.Sets
open Go.RowKit Go.Proofs.Qxb6612962a.Plain

theorem cnt_pos (f : Nat → ByteArray) (x : ByteArray) : ∀ n, 0 < cnt f x n ↔ Has f n x
  | 0 => ⟨fun h => by simp [cnt] at h, fun ⟨i, hi, _⟩ => by omega⟩
  | n + 1 => by
    have ih := cnt_pos f x n
    constructor
    · intro h
      by_cases e : f n = x
      · exact ⟨n, by omega, e⟩
      · rw [cnt, if_neg e] at h
        obtain ⟨i, hi, hx⟩ := ih.1 h
        exact ⟨i, by omega, hx⟩
    · rintro ⟨i, hi, hx⟩
      rw [cnt]
      by_cases e : i = n
      · subst e; rw [if_pos hx]; omega
      · have := ih.2 ⟨i, by omega, hx⟩
        omega

theorem has_iff {F f : Nat → ByteArray} {n : Nat} (h : ∀ x, cnt F x n = cnt f x n) (x : ByteArray) : Has F n x ↔ Has f n x := by
  rw [← cnt_pos, ← cnt_pos, h]

set_option maxHeartbeats 1000000 in
theorem member_walk {a : Option Addr} {n : Nat} (c : Nat) {f : Nat → ByteArray} (q : ByteArray) (w : World) (hz : Sized n f) (hq : q.size ≤ 9223372036854775807) (h : Strs w a n f) :
    Calls Try.prog 7 #[.slice a n c, .string q] w fun e w' => e = .returned (.bool true) ∧ Below w.heap.size w w' := by
  go_enter Try.func7, Try.ntmps7
  go_wp2_with fail
  refine (zz17 c q w hz hq h).mono ?_
  rintro e w' ⟨rfl | ⟨rfl, hf, hfq⟩, rfl⟩
  · go_wp2
    go_ret
    exact ⟨rfl, Below.refl _ _⟩
  unfold Few at hf hfq
  go_wp2_with fail
  refine (namesOver_any c _ _ (by omega) hz h).mono ?_
  rintro e w' ⟨rfl | ⟨rfl, -⟩, rfl⟩
  rotate_left
  · go_wp2
    go_ret
    exact ⟨rfl, Below.refl _ _⟩
  go_wp2_with fail
  refine (sortedCopy_any c _ hf h).mono ?_
  rintro e w1 ⟨X1, F1, rfl, hR1, hB1, -, -⟩
  go_wp2_with fail
  refine (distinct_any n _ hf (Or.inr ⟨X1, 0, rfl, hR1.hi, fun i hi => by rw [Nat.zero_add]; exact hR1.cell i hi⟩)).mono ?_
  rintro e w2 ⟨rfl | ⟨rfl, -⟩, q1, rfl⟩
  · go_wp2
    go_ret
    exact ⟨rfl, below_draws hB1 q1⟩
  have hB2 := below_draws hB1 q1
  have h2 := h.below hB2
  clear hR1 hB1
  go_wp2_with fail
  refine (newSetOf_any c _ hf h2).mono ?_
  rintro e w3 ⟨S, X, F, rfl, hS, hX, hset, hB3, hcn, hso⟩
  have HC : Hid (∀ x, cnt F x n = cnt f x n) := hcn
  clear hcn
  go_wp2_with fail
  refine (ZZfind_any q hset hf hso).mono ?_
  rintro e w4 ⟨hfr, rfl⟩
  have hB : Below w'.heap.size w' w4 := hB2.trans (hB3.mono hB2.size)
  have h4 := h.below hB
  clear hB2 hB3 h2
  rcases hfr with ⟨i, hi, hF, rfl⟩ | ⟨hno, rfl⟩
  · have hyes : Has f n q := (has_iff HC.out q).1 ⟨i, hi, hF⟩
    have hc0 := hset.row.name i hi
    have hc1 := hset.row.val i hi
    rw [hF] at hc0
    clear hF
    go_wp2_with fail
    refine (hasName_any c q _ hf h4).mono ?_
    rintro e w5 ⟨⟨-, rfl⟩ | ⟨hn, rfl⟩, rfl⟩
    · go_wp2
      go_ret
      exact ⟨rfl, hB⟩
    · exact absurd hyes hn
  · have hnot : ¬ Has f n q := fun hh => hno ((has_iff HC.out q).2 hh)
    clear hno
    go_wp2_with fail
    refine (hasName_any c q _ hf h4).mono ?_
    rintro e w5 ⟨⟨hn, rfl⟩ | ⟨-, rfl⟩, rfl⟩
    · exact absurd hn hnot
    · go_wp2
      go_ret
      exact ⟨rfl, hB⟩
end Go.Proofs.Qxb6612962a.Sets
