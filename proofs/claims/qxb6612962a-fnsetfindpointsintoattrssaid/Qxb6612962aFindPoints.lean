/-
  Seat b6612962a: the law FnSetFindPointsIntoAttrs: walked.
-/
import Derived.Test.Qxb6612962aAttrsReversed
import Derived.Lib.Builder
namespace Go.Proofs.Qxb6612962a.Sets
open Go.RowKit Go.Proofs.Qxb6612962a.Plain

theorem SetAt.drewN {w : World} {S X n c : Nat} {F : Nat → ByteArray} (h : SetAt w S X n c F) (q : Nat) : SetAt (w.drewN q) S X n c F := ⟨h.hS, h.row.drewN q, h.attrs, h.under⟩

theorem strict_lt {F : Nat → ByteArray} {n : Nat} (hs : Sorted F 0 n) (ha : ∀ i, i + 1 < n → lt (F i) (F (i + 1)) = true) {i j : Nat} (hij : i < j) (hj : j < n) : lt (F i) (F j) = true := by
  by_cases e : j = i + 1
  · subst e; exact ha i hj
  · cases h : lt (F i) (F j)
    · have := le_trans (hs (i + 1) j (by omega) (by omega) hj) h
      rw [ha i (by omega)] at this
      exact this.symm
    · rfl

theorem strict_inj {F : Nat → ByteArray} {n : Nat} (hs : Sorted F 0 n) (ha : ∀ i, i + 1 < n → lt (F i) (F (i + 1)) = true) {i j : Nat} (hi : i < n) (hj : j < n) (e : F i = F j) : i = j := by
  rcases Nat.lt_trichotomy i j with h | h | h
  · have := strict_lt hs ha h hj
    rw [e, lt_irrefl] at this
    cases this
  · exact h
  · have := strict_lt hs ha h hi
    rw [e, lt_irrefl] at this
    cases this

/-- find of the k-th name points at the k-th attribute. -/
theorem find_at {S X n c : Nat} {F : Nat → ByteArray} {w : World} (h : SetAt w S X n c F) (hn : n ≤ 1048576) (hS : Sorted F 0 n) (ha : ∀ i, i + 1 < n → lt (F i) (F (i + 1)) = true) {k : Nat} (hk : k < n) :
    Calls Try.prog 18 #[.pointer (some ⟨S, 0, none⟩), .string (F k)] w fun e w' => e = .returned (.pointer (some ⟨X, k * 2, none⟩)) ∧ w' = w :=
  (ZZfind_any (F k) h hn hS).mono fun e w' ⟨hr, hw⟩ => by
    rcases hr with ⟨i, hi, hF, he⟩ | ⟨hno, _⟩
    · have := strict_inj hS ha hi hk hF
      subst this
      exact ⟨he, hw⟩
    · exact absurd ⟨k, hk, rfl⟩ hno

theorem Strs.cell {w : World} {b off n : Nat} {F : Nat → ByteArray} (h : Strs w (some ⟨b, off, none⟩) n F) {i : Nat} (hi : i < n) : w.cell? ⟨b, off + i, none⟩ = some (.string (F i)) := by
  rcases h with h | ⟨b', off', h1, h2, h3⟩
  · omega
  · injection h1 with h1
    injection h1 with e1 e2
    subst e1; subst e2
    exact h3 i hi

set_option maxRecDepth 10000 in
set_option maxHeartbeats 2000000 in
theorem points_walk {a : Option Addr} {n : Nat} (c : Nat) {f : Nat → ByteArray} (w : World) (hz : Sized n f) (h : Strs w a n f) :
    Calls Try.prog 8 #[.slice a n c] w fun e w' => e = .returned (.bool true) ∧ Below w.heap.size w w' := by
  go_enter Try.func8, Try.ntmps8
  go_wp2_with fail
  refine (zz20 c w hz h).mono ?_
  rintro e w' ⟨rfl | ⟨rfl, hf⟩, rfl⟩
  · go_wp2
    go_ret
    exact ⟨rfl, Below.refl _ _⟩
  unfold Few at hf
  go_wp2_with fail
  refine (namesOver_any c _ _ (by omega) hz h).mono ?_
  rintro e w' ⟨rfl | ⟨rfl, -⟩, rfl⟩
  rotate_left
  · go_wp2
    go_ret
    exact ⟨rfl, Below.refl _ _⟩
  go_wp2_with fail
  refine (sortedCopy_any c _ hf h).mono ?_
  rintro e w1 ⟨X1, F1, rfl, hR1, hB1, hc1, hs1⟩
  have HC1 : Hid (∀ x, cnt F1 x n = cnt f x n) := hc1
  clear hc1
  go_wp2_with fail
  refine (distinct_any n _ hf hR1.strs).mono ?_
  rintro e w2 ⟨rfl | ⟨rfl, hap⟩, q1, rfl⟩
  · go_wp2
    go_ret
    exact ⟨rfl, below_draws hB1 q1⟩
  have HST : Hid (∀ i, i + 1 < n → lt (F1 i) (F1 (i + 1)) = true) := fun i hi => strict hs1 hap hi
  have hB2 := below_draws hB1 q1
  have h2 := h.below hB2
  clear hR1 hB1 hap
  go_wp2_with fail
  refine (newSetOf_any c _ hf h2).mono ?_
  rintro e w3 ⟨S, X, F, rfl, hS, hX, hset, hB3, hcn, hso⟩
  have HE : Hid (∀ i, i < n → F i = F1 i) := sorted_unique n hso hs1 (fun x => (hcn x).trans (HC1.out x).symm)
  have HSF : Hid (∀ i, i + 1 < n → lt (F i) (F (i + 1)) = true) := fun i hi => by rw [HE.out i (by omega), HE.out (i + 1) hi]; exact HST.out i hi
  have HC : Hid (∀ x, cnt F x n = cnt f x n) := hcn
  have hB : Below w'.heap.size w' w3 := hB2.trans (hB3.mono hB2.size)
  have h3 := h.below hB
  clear hcn hs1 HC1 HST HE hB2 hB3 h2 hS hX
  go_wp2_with fail
  refine (Attrs_any hset).mono ?_
  rintro e w4 ⟨rfl, rfl⟩
  go_wp2
  go_loopw [5] (fun v wr => ∃ k : Nat, k ≤ n ∧ v = .int .i64 k ∧ SetAt wr S X n n F ∧ Strs wr a n f ∧ Below w'.heap.size w' wr) (fun v _ => n - (intOf v).toNat)
  case atStart => exact ⟨0, by omega, rfl, hset, h3, hB⟩
  case round =>
    clear hset h3 hB
    obtain ⟨k, hk, rfl, hset, h3, hB⟩ := hrel
    by_cases hlt : k < n
    · have c0 := hset.row.name k hlt
      have b0 : (k : Int) < (n : Int) := by omega
      obtain ⟨i0, hi0, -, -, -⟩ := info_parts Try.info36
      have hne := fun w : World => Lib.run_neq_ptr_same (P := Try.prog) w ⟨X, k * 2, none⟩ Try.underlying38 hi0
      have HF : Hid (∀ m, Calls Try.prog 18 #[.pointer (some ⟨S, 0, none⟩), .string (F k)] (wr.drewN m) fun e w' => e = .returned (.pointer (some ⟨X, k * 2, none⟩)) ∧ w' = wr.drewN m) := fun m => find_at (hset.drewN m) hf hso HSF.out hlt
      go_wp2_with fail
      go_quiet ((go_at_call 18; exact Calls.quiet_of_same (HF.out _)))
      go_wp2
      exact ⟨⟨k + 1, by omega, by go_num, hset.drewN _, h3.drewN _, below_draws hB _⟩, by simp [intOf]; omega⟩
    · rcases h3 with rfl | ⟨b, off, rfl, hb, hc⟩
      · go_wp2
        refine wp_loop_rounds 1 ?_
        rw [rounds_succ]
        go_wp2
        go_ret
        exact ⟨rfl, hB⟩
      have h3 : Strs wr (some ⟨b, off, none⟩) n f := Or.inr ⟨b, off, rfl, hb, hc⟩
      clear hb hc
      go_wp2
      clear hk hlt
      go_loopw [6, 7] (fun v _ wr => ∃ k : Nat, k ≤ n ∧ v = .int .i64 k ∧ SetAt wr S X n n F ∧ Strs wr (some ⟨b, off, none⟩) n f ∧ Below w'.heap.size w' wr) (fun v _ _ => n - (intOf v).toNat)
      case atStart => exact ⟨0, by omega, rfl, hset, h3, hB⟩
      case round =>
        clear hset h3 hB
        obtain ⟨k, hk, rfl, hset, h3, hB⟩ := hrel
        by_cases hlt : k < n
        · have hc0 := h3.cell hlt
          have hhas : Has F n (f k) := (has_iff HC.out _).2 ⟨k, hlt, rfl⟩
          have b0 : (k : Int) < (n : Int) := by omega
          go_wp2_with fail
          refine (ZZfind_any (f k) hset hf hso).mono ?_
          rintro e w5 ⟨⟨i, hi, hF, rfl⟩ | ⟨hno, -⟩, rfl⟩
          · have hc1 := hset.row.name i hi
            rw [hF] at hc1
            have d : ((f k).toList != (f k).toList) = false := by simp
            clear hF
            go_wp2
            go_quiet (fail)
            go_wp2
            exact ⟨⟨k + 1, by omega, by go_num, hset.drewN _, h3.drewN _, below_draws hB _⟩, by simp [intOf]; omega⟩
          · exact absurd hhas hno
        · go_wp2
          go_ret
          exact ⟨rfl, hB⟩
end Go.Proofs.Qxb6612962a.Sets
