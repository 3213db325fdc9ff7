/-
  Seat b6612962a: the law FnSetAttrsAreNamesInByteOrder: walked.
-/
import Derived.Test.Qxb6612962aMember
namespace Go.Proofs.Qxb6612962a.Sets
open Go.RowKit Go.Proofs.Qxb6612962a.Plain

/-- Two sorted sequences of the same strings are one. -/
theorem sorted_unique {F G : Nat → ByteArray} : ∀ n, Sorted F 0 n → Sorted G 0 n → (∀ x, cnt F x n = cnt G x n) → ∀ i, i < n → F i = G i
  | 0, _, _, _ => fun i hi => by omega
  | n + 1, hF, hG, hc => by
    have key : F n = G n := by
      have h1 : Has G (n + 1) (F n) := (has_iff hc _).1 ⟨n, by omega, rfl⟩
      have h2 : Has F (n + 1) (G n) := (has_iff hc _).2 ⟨n, by omega, rfl⟩
      obtain ⟨j, hj, ej⟩ := h1
      obtain ⟨k, hk, ek⟩ := h2
      have e1 : lt (G n) (F n) = false := by
        by_cases e : j = n
        · subst e; rw [ej]; exact lt_irrefl _
        · have := hG j n (by omega) (by omega) (by omega)
          rwa [ej] at this
      have e2 : lt (F n) (G n) = false := by
        by_cases e : k = n
        · subst e; rw [ek]; exact lt_irrefl _
        · have := hF k n (by omega) (by omega) (by omega)
          rwa [ek] at this
      exact lt_total e2 e1
    have ih := sorted_unique n (fun p q h1 h2 h3 => hF p q h1 h2 (by omega)) (fun p q h1 h2 h3 => hG p q h1 h2 (by omega)) (fun x => by
      have := hc x
      rw [cnt, cnt, key] at this
      omega)
    intro i hi
    by_cases e : i = n
    · subst e; exact key
    · exact ih i (by omega)

theorem Row.strs {w wr : World} {X n : Nat} {F : Nat → ByteArray} (h : Row w wr X n F) : Strs wr (some ⟨X, 0, none⟩) n F :=
  Or.inr ⟨X, 0, rfl, h.hi, fun i hi => by rw [Nat.zero_add]; exact h.cell i hi⟩

theorem Strs.at0 {w : World} {X n : Nat} {F : Nat → ByteArray} (h : Strs w (some ⟨X, 0, none⟩) n F) {i : Nat} (hi : i < n) : w.cell? ⟨X, i, none⟩ = some (.string (F i)) := by
  rcases h with h | ⟨b, off, h1, h2, h3⟩
  · omega
  · injection h1 with h1
    injection h1 with e1 e2
    subst e1; subst e2
    have := h3 i hi
    rwa [Nat.zero_add] at this

set_option maxHeartbeats 1000000 in
theorem order_walk {a : Option Addr} {n : Nat} (c : Nat) {f : Nat → ByteArray} (w : World) (hz : Sized n f) (h : Strs w a n f) :
    Calls Try.prog 5 #[.slice a n c] w fun e w' => e = .returned (.bool true) ∧ Below w.heap.size w w' := by
  go_enter Try.func5, Try.ntmps5
  go_wp2_with fail
  refine (zz10 c w hz h).mono ?_
  rintro e w' ⟨rfl | ⟨rfl, hf⟩, rfl⟩
  · go_wp2
    go_ret
    exact ⟨rfl, Below.refl _ _⟩
  unfold Few at hf
  go_wp2_with fail
  refine (namesOver_any c _ _ (by omega) hz h).mono ?_
  rintro e w' ⟨rfl | ⟨rfl, -⟩, rfl⟩
  rotate_left
  · go_wp2
    go_ret
    exact ⟨rfl, Below.refl _ _⟩
  go_wp2_with fail
  refine (sortedCopy_any c _ hf h).mono ?_
  rintro e w1 ⟨X1, F1, rfl, hR1, hB1, hc1, hs1⟩
  have HC1 : Hid (∀ x, cnt F1 x n = cnt f x n) := hc1
  clear hc1
  go_wp2_with fail
  refine (distinct_any n _ hf hR1.strs).mono ?_
  rintro e w2 ⟨rfl | ⟨rfl, -⟩, q1, rfl⟩
  · go_wp2
    go_ret
    exact ⟨rfl, below_draws hB1 q1⟩
  have hB2 := below_draws hB1 q1
  have h2 := h.below hB2
  have hS2 : Strs (w1.drewN q1) (some ⟨X1, 0, none⟩) n F1 := hR1.strs.drewN q1
  clear hR1 hB1
  go_wp2_with fail
  refine (newSetOf_any c _ hf h2).mono ?_
  rintro e w3 ⟨S, X, F, rfl, hS, hX, hset, hB3, hcn, hso⟩
  have HE : Hid (∀ i, i < n → F i = F1 i) := sorted_unique n hso hs1 (fun x => (hcn x).trans (HC1.out x).symm)
  have hB : Below w'.heap.size w' w3 := hB2.trans (hB3.mono hB2.size)
  have hS3 := hS2.below hB3
  have hrow := hset.row
  clear hcn hso hs1 HC1 hB2 hB3 h2 hS2
  go_wp2_with fail
  refine (Attrs_any hset).mono ?_
  rintro e w4 ⟨rfl, rfl⟩
  clear hset
  go_wp2
  go_loopw [5] (fun v wr => ∃ k q : Nat, k ≤ n ∧ v = .int .i64 k ∧ wr = w4.drewN q) (fun v _ => n - (intOf v).toNat)
  case atStart => exact ⟨0, 0, by omega, rfl, rfl⟩
  case round =>
    obtain ⟨k, q, hk, rfl, rfl⟩ := hrel
    by_cases hlt : k < n
    · have c0 := hrow.name k hlt
      have c1 := hrow.val k hlt
      have c2 := hS3.at0 hlt
      rw [← HE.out k hlt] at c2
      have b0 : (k : Int) < (n : Int) := by omega
      have d : ((F k).toList != (F k).toList) = false := by simp
      go_wp2
      go_quiet (fail)
      go_wp2
      exact ⟨⟨k + 1, q + nq, by omega, by go_num, rfl⟩, by simp [intOf]; omega⟩
    · go_wp2
      go_ret
      exact ⟨rfl, below_draws hB q⟩
end Go.Proofs.Qxb6612962a.Sets
