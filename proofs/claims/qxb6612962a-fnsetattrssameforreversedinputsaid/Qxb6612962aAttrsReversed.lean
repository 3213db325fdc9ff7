/-
  Seat b6612962a: the law FnSetAttrsSameForReversedInput: walked.
-/
import Derived.Test.Qxb6612962aAttrsOrder
namespace Go.Proofs.Qxb6612962a.Sets
open Go.RowKit Go.Proofs.Qxb6612962a.Plain

theorem cnt_rev (f : Nat → ByteArray) (x : ByteArray) (n : Nat) : cnt (fun i => f (n - 1 - i)) x n = cnt f x n := by
  have h : ∀ m, m ≤ n → cnt (fun i => f (n - 1 - i)) x m + cnt f x (n - m) = cnt f x n := by
    intro m
    induction m with
    | zero => intro _; simp [cnt]
    | succ m ih =>
      intro hm
      have := ih (by omega)
      obtain ⟨k, hk⟩ : ∃ k, n - m = k + 1 := ⟨n - m - 1, by omega⟩
      have e1 : n - (m + 1) = k := by omega
      have e2 : n - 1 - m = k := by omega
      rw [hk, cnt] at this
      rw [e1, cnt, e2]
      omega
  have := h n (Nat.le_refl _)
  simpa [cnt] using this

/-- Sorted, and no two neighbours equal: strictly rising. -/
theorem strict {F : Nat → ByteArray} {n : Nat} (hs : Sorted F 0 n) (ha : Apart F n) {i : Nat} (hi : i + 1 < n) : lt (F i) (F (i + 1)) = true := by
  cases h : lt (F i) (F (i + 1))
  · exact absurd (lt_total h (hs i (i + 1) (by omega) (by omega) hi)) (ha i hi)
  · rfl

/-- L is the least of the first k. -/
def Least (f : Nat → ByteArray) (k : Nat) (L : ByteArray) : Prop := Has f k L ∧ ∀ i, i < k → lt (f i) L = false
/-- G is the greatest of the first k. -/
def Greatest (f : Nat → ByteArray) (k : Nat) (G : ByteArray) : Prop := Has f k G ∧ ∀ i, i < k → lt G (f i) = false

theorem Has.succ {f : Nat → ByteArray} {k : Nat} {x : ByteArray} (h : Has f k x) : Has f (k + 1) x := let ⟨i, hi, e⟩ := h; ⟨i, by omega, e⟩

theorem Least.one (f : Nat → ByteArray) : Least f 1 (f 0) := ⟨⟨0, by omega, rfl⟩, fun i hi => by rw [show i = 0 by omega]; exact lt_irrefl _⟩
theorem Greatest.one (f : Nat → ByteArray) : Greatest f 1 (f 0) := ⟨⟨0, by omega, rfl⟩, fun i hi => by rw [show i = 0 by omega]; exact lt_irrefl _⟩
theorem Least.keep {f : Nat → ByteArray} {k : Nat} {L : ByteArray} (h : Least f k L) (hk : lt (f k) L = false) : Least f (k + 1) L :=
  ⟨h.1.succ, fun i hi => by by_cases e : i = k; · subst e; exact hk
                            · exact h.2 i (by omega)⟩
theorem Least.take {f : Nat → ByteArray} {k : Nat} {L : ByteArray} (h : Least f k L) (hk : lt (f k) L = true) : Least f (k + 1) (f k) :=
  ⟨⟨k, by omega, rfl⟩, fun i hi => by by_cases e : i = k; · subst e; exact lt_irrefl _
                                      · exact le_trans (lt_asymm hk) (h.2 i (by omega))⟩
theorem Greatest.keep {f : Nat → ByteArray} {k : Nat} {G : ByteArray} (h : Greatest f k G) (hk : lt G (f k) = false) : Greatest f (k + 1) G :=
  ⟨h.1.succ, fun i hi => by by_cases e : i = k; · subst e; exact hk
                            · exact h.2 i (by omega)⟩
theorem Greatest.take {f : Nat → ByteArray} {k : Nat} {G : ByteArray} (h : Greatest f k G) (hk : lt G (f k) = true) : Greatest f (k + 1) (f k) :=
  ⟨⟨k, by omega, rfl⟩, fun i hi => by by_cases e : i = k; · subst e; exact lt_irrefl _
                                      · exact le_trans (h.2 i (by omega)) (lt_asymm hk)⟩

theorem Least.eq {f F : Nat → ByteArray} {n : Nat} {L : ByteArray} (h : Least f n L) (hn : 0 < n) (hc : ∀ x, cnt F x n = cnt f x n) (hs : Sorted F 0 n) : F 0 = L := by
  obtain ⟨i, hi, e⟩ := (has_iff hc _).2 h.1
  obtain ⟨j, hj, e2⟩ := (has_iff hc _).1 ⟨0, hn, rfl⟩
  have h1 : lt (F 0) L = false := by rw [← e2]; exact h.2 j hj
  have h2 : lt L (F 0) = false := by
    rw [← e]
    by_cases e0 : i = 0
    · subst e0; exact lt_irrefl _
    · exact hs 0 i (by omega) (by omega) hi
  exact lt_total h1 h2

theorem Greatest.eq {f F : Nat → ByteArray} {n : Nat} {G : ByteArray} (h : Greatest f n G) (hn : 0 < n) (hc : ∀ x, cnt F x n = cnt f x n) (hs : Sorted F 0 n) : F (n - 1) = G := by
  obtain ⟨i, hi, e⟩ := (has_iff hc _).2 h.1
  obtain ⟨j, hj, e2⟩ := (has_iff hc _).1 ⟨n - 1, by omega, rfl⟩
  have h1 : lt G (F (n - 1)) = false := by rw [← e2]; exact h.2 j hj
  have h2 : lt (F (n - 1)) G = false := by
    rw [← e]
    by_cases e0 : i = n - 1
    · rw [e0]; exact lt_irrefl _
    · exact hs i (n - 1) (by omega) (by omega) (by omega)
  exact lt_total h2 h1


theorem Row.rev {w wr : World} {X n : Nat} {F f : Nat → ByteArray} (h : Row w wr X n F) (hF : ∀ p, p < n → F p = f (n - 1 - p)) : Strs wr (some ⟨X, 0, none⟩) n (fun i => f (n - 1 - i)) :=
  Or.inr ⟨X, 0, rfl, h.hi, fun i hi => by have := h.cell i hi; rw [hF i hi] at this; rw [Nat.zero_add]; exact this⟩

theorem AR.keep {w w' : World} {X n : Nat} {F : Nat → ByteArray} (h : AR w X n F) (hb : Below w.heap.size w w') : AR w' X n F where
  hi := Nat.lt_of_lt_of_le h.hi hb.size
  name i hi := (hb.cell (p := ⟨X, i * 2, none⟩) h.hi).trans (h.name i hi)
  val i hi := (hb.cell (p := ⟨X, i * 2 + 1, none⟩) h.hi).trans (h.val i hi)
  free i hi := ⟨(hb.frozen (p := ⟨X, i * 2, none⟩) h.hi).trans (h.free i hi).1, (hb.frozen (p := ⟨X, i * 2 + 1, none⟩) h.hi).trans (h.free i hi).2⟩

set_option maxRecDepth 10000 in
set_option maxHeartbeats 2000000 in
theorem reversed_walk {a : Option Addr} {n : Nat} (c : Nat) {f : Nat → ByteArray} (w : World) (hz : Sized n f) (h : Strs w a n f) :
    Calls Try.prog 6 #[.slice a n c] w fun e w' => e = .returned (.bool true) ∧ Below w.heap.size w w' := by
  go_enter Try.func6, Try.ntmps6
  go_wp2_with fail
  refine (zz16 c w hz h).mono ?_
  rintro e w' ⟨rfl | ⟨rfl, hf⟩, rfl⟩
  · go_wp2
    go_ret
    exact ⟨rfl, Below.refl _ _⟩
  unfold Few at hf
  go_wp2_with fail
  refine (namesOver_any c _ _ (by omega) hz h).mono ?_
  rintro e w' ⟨rfl | ⟨rfl, -⟩, rfl⟩
  rotate_left
  · go_wp2
    go_ret
    exact ⟨rfl, Below.refl _ _⟩
  go_wp2_with fail
  refine (sortedCopy_any c _ hf h).mono ?_
  rintro e w1 ⟨X1, F1, rfl, hR1, hB1, hc1, hs1⟩
  have HC1 : Hid (∀ x, cnt F1 x n = cnt f x n) := hc1
  clear hc1
  go_wp2_with fail
  refine (distinct_any n _ hf hR1.strs).mono ?_
  rintro e w2 ⟨rfl | ⟨rfl, hap⟩, q1, rfl⟩
  · go_wp2
    go_ret
    exact ⟨rfl, below_draws hB1 q1⟩
  have HST : Hid (∀ i, i + 1 < n → lt (F1 i) (F1 (i + 1)) = true) := fun i hi => strict hs1 hap hi
  have hB2 := below_draws hB1 q1
  clear hR1 hB1 hap
  obtain ⟨w2, hw2⟩ : ∃ w2, w2 = w1.drewN q1 := ⟨_, rfl⟩
  rw [← hw2] at hB2 ⊢
  clear hw2
  have hmk := make_strings n hf
  rcases h with rfl | ⟨b, off, rfl, hb, hc⟩
  · have hmk0 : ∀ w : World, (Instr.makeSlice 25 (.int .i64 0) (.int .i64 0)).run Try.prog w = .ok (.slice (some ⟨w.heap.size, 0, none⟩) 0 0) (w.alloc (.cells (madeCells #[.string ByteArray.empty] 0) 9)) := hmk
    clear hmk HST HC1 hs1
    go_wp2
    refine wp_loop_rounds 1 ?_
    rw [rounds_succ]
    go_wp2_with fail
    refine (newSetOf_any (f := f) c _ (Nat.zero_le _) (Or.inl rfl)).mono ?_
    rintro e w3 ⟨S, X, G, rfl, hS, hX, hset, hB4, -, -⟩
    have hB5 : Below w'.heap.size w' w3 := (hB2.alloc hB2.size _).trans (hB4.mono (Nat.le_trans hB2.size (by simp)))
    clear hB4 hS hX
    go_wp2_with fail
    refine (Attrs_any hset).mono ?_
    rintro e w4 ⟨rfl, rfl⟩
    clear hset
    go_wp2_with fail
    refine (newSetOf_any (f := f) 0 _ (Nat.zero_le _) (Or.inl rfl)).mono ?_
    rintro e w5 ⟨S', X', G', rfl, hS', hX', hset', hB6, -, -⟩
    have hB7 : Below w'.heap.size w' w5 := hB5.trans (hB6.mono hB5.size)
    clear hB6 hB5 hS' hX'
    go_wp2_with fail
    refine (Attrs_any hset').mono ?_
    rintro e w6 ⟨rfl, rfl⟩
    clear hset'
    go_wp2
    refine wp_loop_rounds 1 ?_
    rw [rounds_succ]
    go_wp2
    go_ret
    exact ⟨rfl, hB7⟩
  have h : Strs w' (some ⟨b, off, none⟩) n f := Or.inr ⟨b, off, rfl, hb, hc⟩
  go_wp2
  go_loopw [5] (fun v wr => ∃ (k : Nat) (F : Nat → ByteArray), k ≤ n ∧ v = .int .i64 k ∧ Row w2 wr w2.heap.size n F ∧ Below w2.heap.size w2 wr ∧ ∀ p, p < k → F p = f (n - 1 - p)) (fun v _ => n - (intOf v).toNat)
  case atStart => exact ⟨0, _, Nat.zero_le _, rfl, Row.new w2 w2 n (Nat.le_refl _), (Below.refl _ _).alloc (Nat.le_refl _) _, fun p hp => by omega⟩
  case round =>
    obtain ⟨k, F, hk, rfl, hR, hBr, hF⟩ := hrel
    by_cases hlt : k < n
    · have h0 : wr.cell? ⟨b, off + (n - 1 - k), none⟩ = some (.string (f (n - 1 - k))) :=
        ((hB2.trans (hBr.mono hB2.size)).cell (p := ⟨b, off + (n - 1 - k), none⟩) hb).trans (hc _ (by omega))
      have h1 := hR.cell k hlt
      have h2 := hR.free k hlt
      clear hmk hc
      go_wp2
      refine ⟨⟨k + 1, upd F k (f (n - 1 - k)), by omega, by go_num, hR.store hlt _, hBr.setCell (Nat.le_refl _) _, fun p hp => ?_⟩, by simp [intOf]; omega⟩
      by_cases e : p = k
      · subst e; exact upd_same _ _ _
      · rw [upd_other _ _ e]; exact hF p (by omega)
    · have hkn : k = n := by omega
      subst hkn
      have hrev : Strs wr (some ⟨w2.heap.size, 0, none⟩) k (fun i => f (k - 1 - i)) := hR.rev hF
      have hB3 : Below w'.heap.size w' wr := hB2.trans (hBr.mono hB2.size)
      have h3 := h.below hB3
      clear hmk hR hBr hF hB2 hlt
      go_wp2_with fail
      refine (newSetOf_any c _ hf h3).mono ?_
      rintro e w3 ⟨S, X, G, rfl, hS, hX, hset, hB4, hcn, hso⟩
      have HE : Hid (∀ i, i < k → G i = F1 i) := sorted_unique k hso hs1 (fun x => (hcn x).trans (HC1.out x).symm)
      have hB5 : Below w'.heap.size w' w3 := hB3.trans (hB4.mono hB3.size)
      have hrev3 := hrev.below hB4
      have hrow := hset.row
      clear hcn hso hB4 hrev h3 hB3
      go_wp2_with fail
      refine (Attrs_any hset).mono ?_
      rintro e w4 ⟨rfl, rfl⟩
      clear hset hS
      go_wp2_with fail
      refine (newSetOf_any k _ hf hrev3).mono ?_
      rintro e w5 ⟨S', X', G', rfl, hS', hX', hset', hB6, hcn', hso'⟩
      have HE' : Hid (∀ i, i < k → G' i = F1 i) := sorted_unique k hso' hs1 (fun x => ((hcn' x).trans (cnt_rev f x k)).trans (HC1.out x).symm)
      have hB7 : Below w'.heap.size w' w5 := hB5.trans (hB6.mono hB5.size)
      have hrow5 : AR w5 X k G := hrow.keep hB6
      have hrow' := hset'.row
      clear hcn' hso' hB6 hrev3 hB5 hrow
      go_wp2_with fail
      refine (Attrs_any hset').mono ?_
      rintro e w6 ⟨rfl, rfl⟩
      clear hset' hS' hX hX'
      have hN : ∀ i, i < k → w6.cell? ⟨X, i * 2, none⟩ = some (.string (F1 i)) := fun i hi => by rw [← HE.out i hi]; exact hrow5.name i hi
      have hN' : ∀ i, i < k → w6.cell? ⟨X', i * 2, none⟩ = some (.string (F1 i)) := fun i hi => by rw [← HE'.out i hi]; exact hrow'.name i hi
      clear HE HE' hrow5 hrow'
      go_wp2
      go_loopw [8] (fun v wr => ∃ m q : Nat, m ≤ k ∧ v = .int .i64 m ∧ wr = w6.drewN q) (fun v _ => k - (intOf v).toNat)
      case atStart => exact ⟨0, 0, by omega, rfl, rfl⟩
      case round =>
        obtain ⟨m, q, hm, rfl, rfl⟩ := hrel
        by_cases hlt : m < k
        · have c0 := hN m hlt
          have c1 := hN' m hlt
          have b0 : (m : Int) < (k : Int) := by omega
          have d : ((F1 m).toList != (F1 m).toList) = false := by simp
          by_cases hm0 : m = 0
          · subst hm0
            clear hN hN' hc
            go_wp2
            go_quiet (fail)
            go_wp2
            go_quiet (fail)
            go_wp2
            exact ⟨⟨1, _, by omega, rfl, rfl⟩, by simp [intOf]; omega⟩
          · obtain ⟨p, rfl⟩ : ∃ p, m = p + 1 := ⟨m - 1, by omega⟩
            have c2 := hN p (by omega)
            have d2 : Op.bytesLess (F1 p).toList (F1 (p + 1)).toList = true := HST.out p hlt
            have b1 : (0 : Int) < ((p + 1 : Nat) : Int) := by omega
            have b2 : (p : Int) < (k : Int) := by omega
            clear hN hN' hc
            go_wp2
            go_quiet (fail)
            go_wp2
            go_quiet (fail)
            go_wp2
            exact ⟨⟨p + 1 + 1, _, by omega, by go_num, rfl⟩, by simp [intOf]; omega⟩
        · have hmk : m = k := by omega
          subst hmk
          have hB8 : Below w'.heap.size w' (w6.drewN q) := below_draws hB7 q
          by_cases hk0 : m = 0
          · have d : decide ((0 : Int) < (m : Int)) = false := decide_eq_false (by omega)
            clear hN hN' hc HST
            go_wp2
            go_ret
            exact ⟨rfl, hB8⟩
          · have b0 : (0 : Int) < (m : Int) := by omega
            have hcn : ∀ i, i < m → w6.cell? ⟨b, off + i, none⟩ = some (.string (f i)) := fun i hi => (hB7.cell (p := ⟨b, off + i, none⟩) hb).trans (hc i hi)
            have c0 : w6.cell? ⟨b, off, none⟩ = some (.string (f 0)) := hcn 0 (by omega)
            have a0 : w6.cell? ⟨X, 0, none⟩ = some (.string (F1 0)) := by have := hN 0 (by omega); rwa [Nat.zero_mul] at this
            have a1 := hN (m - 1) (by omega)
            have d0 : decide (0 < m) = true := decide_eq_true (by omega)
            clear hN hN' hc HST hB7
            go_wp2
            go_loop [9, 10, 11] (fun u v i => ∃ (L G : ByteArray) (k : Nat), u = .string L ∧ v = .string G ∧ i = .int .i64 k ∧ 1 ≤ k ∧ k ≤ m ∧ Least f k L ∧ Greatest f k G) (fun _ _ i => m - (intOf i).toNat)
            case atStart => exact ⟨f 0, f 0, 1, rfl, rfl, rfl, by omega, by omega, Least.one f, Greatest.one f⟩
            case round =>
              obtain ⟨L, G, k, rfl, rfl, rfl, hk1, hk, hL, hG⟩ := hrel
              by_cases hlt : k < m
              · have c1 := hcn k hlt
                have b1 : (k : Int) < (m : Int) := by omega
                clear hcn
                cases e1 : lt (f k) L
                · have t1 : Op.bytesLess (f k).toList L.toList = false := e1
                  cases e2 : lt G (f k)
                  · have t2 : (!(Op.bytesLess (f k).toList G.toList || (f k).toList == G.toList)) = false := by rw [gtr_iff, e2]
                    go_wp2
                    exact ⟨⟨L, G, k + 1, rfl, rfl, by go_num, by omega, by omega, hL.keep e1, hG.keep e2⟩, by simp [intOf]; omega⟩
                  · have t2 : (!(Op.bytesLess (f k).toList G.toList || (f k).toList == G.toList)) = true := by rw [gtr_iff, e2]
                    go_wp2
                    exact ⟨⟨L, f k, k + 1, rfl, rfl, by go_num, by omega, by omega, hL.keep e1, hG.take e2⟩, by simp [intOf]; omega⟩
                · have t1 : Op.bytesLess (f k).toList L.toList = true := e1
                  cases e2 : lt G (f k)
                  · have t2 : (!(Op.bytesLess (f k).toList G.toList || (f k).toList == G.toList)) = false := by rw [gtr_iff, e2]
                    go_wp2
                    exact ⟨⟨f k, G, k + 1, rfl, rfl, by go_num, by omega, by omega, hL.take e1, hG.keep e2⟩, by simp [intOf]; omega⟩
                  · have t2 : (!(Op.bytesLess (f k).toList G.toList || (f k).toList == G.toList)) = true := by rw [gtr_iff, e2]
                    go_wp2
                    exact ⟨⟨f k, f k, k + 1, rfl, rfl, by go_num, by omega, by omega, hL.take e1, hG.take e2⟩, by simp [intOf]; omega⟩
              · have hkm : k = m := by omega
                subst hkm
                have eL : F1 0 = L := hL.eq (by omega) HC1.out hs1
                have eG : F1 (k - 1) = G := hG.eq (by omega) HC1.out hs1
                rw [eL] at a0
                rw [eG] at a1
                have d1 : (L.toList != L.toList) = false := by simp
                have d2 : (G.toList != G.toList) = false := by simp
                have b2 : ((k : Int) - 1) < (k : Int) := by omega
                clear eL eG hL hG hcn
                go_wp2
                go_ret
                exact ⟨rfl, hB8⟩
end Go.Proofs.Qxb6612962a.Sets
