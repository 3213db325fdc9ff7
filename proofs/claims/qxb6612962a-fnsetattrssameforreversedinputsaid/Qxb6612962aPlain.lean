/-
  Seat b6612962a: the plain mathematics of byte order, counting, and the bottom-up merge. No program in sight.
-/
import GoSem.Op.String
import Derived.Laws.Strings
namespace Go.Proofs.Qxb6612962a.Plain

/-! ### Byte order -/
/-- Go's '<' on strings, as the model has it. -/
def lt (x y : ByteArray) : Bool := Op.bytesLess x.toList y.toList

theorem bl_irrefl : ∀ x : List UInt8, Op.bytesLess x x = false
  | [] => by simp [Op.bytesLess]
  | a :: x => by simp [Op.bytesLess, bl_irrefl x]

theorem bl_trans : ∀ x y z : List UInt8, Op.bytesLess x y = true → Op.bytesLess y z = true → Op.bytesLess x z = true
  | _, [], [], _, h => by simp [Op.bytesLess] at h
  | [], _ :: _, [], _, h => by simp [Op.bytesLess] at h
  | _ :: _, _ :: _, [], _, h => by simp [Op.bytesLess] at h
  | [], _, _ :: _, _, _ => by simp [Op.bytesLess]
  | _ :: _, [], _ :: _, h, _ => by simp [Op.bytesLess] at h
  | a :: x, b :: y, c :: z, h1, h2 => by
    have ih := bl_trans x y z
    simp only [Op.bytesLess, Bool.or_eq_true, Bool.and_eq_true, decide_eq_true_eq, beq_iff_eq, UInt8.lt_iff_toNat_lt] at h1 h2 ⊢
    rcases h1 with h1 | ⟨rfl, h1⟩
    · rcases h2 with h2 | ⟨rfl, h2⟩
      · left; omega
      · left; exact h1
    · rcases h2 with h2 | ⟨rfl, h2⟩
      · left; exact h2
      · right; exact ⟨rfl, ih h1 h2⟩

theorem bl_total : ∀ x y : List UInt8, Op.bytesLess x y = false → Op.bytesLess y x = false → x = y
  | [], [], _, _ => rfl
  | [], _ :: _, h, _ => by simp [Op.bytesLess] at h
  | _ :: _, [], _, h => by simp [Op.bytesLess] at h
  | a :: x, b :: y, h1, h2 => by
    have ih := bl_total x y
    simp only [Op.bytesLess, Bool.or_eq_false_iff, Bool.and_eq_false_iff, decide_eq_false_iff_not, beq_eq_false_iff_ne, UInt8.lt_iff_toNat_lt, ne_eq] at h1 h2
    have hab : a = b := UInt8.toNat_inj.1 (by omega)
    subst hab
    have e1 : Op.bytesLess x y = false := by
      rcases h1.2 with h | h
      · exact absurd rfl h
      · exact h
    have e2 : Op.bytesLess y x = false := by
      rcases h2.2 with h | h
      · exact absurd rfl h
      · exact h
    rw [ih e1 e2]

theorem toList_inj {x y : ByteArray} (h : x.toList = y.toList) : x = y := by
  rw [ByteArray.toList_eq, ByteArray.toList_eq] at h
  cases x; cases y
  simp only at h
  congr 1
  exact Array.toList_inj.1 h

theorem eq_iff (x y : ByteArray) : (x.toList == y.toList) = decide (x = y) := by
  by_cases h : x = y
  · subst h; simp
  · rw [decide_eq_false h, beq_eq_false_iff_ne]
    exact fun e => h (toList_inj e)

theorem lt_irrefl (x : ByteArray) : lt x x = false := bl_irrefl _
theorem lt_trans {x y z : ByteArray} (h1 : lt x y = true) (h2 : lt y z = true) : lt x z = true := bl_trans _ _ _ h1 h2
theorem lt_total {x y : ByteArray} (h1 : lt x y = false) (h2 : lt y x = false) : x = y := toList_inj (bl_total _ _ h1 h2)
theorem lt_asymm {x y : ByteArray} (h : lt x y = true) : lt y x = false := by
  cases h2 : lt y x
  · rfl
  · have := lt_trans h h2
    rw [lt_irrefl] at this
    exact this.symm
/-- 'not below' is transitive: z is not below y, y is not below x. -/
theorem le_trans {x y z : ByteArray} (h1 : lt y x = false) (h2 : lt z y = false) : lt z x = false := by
  cases h : lt z x
  · rfl
  · cases h3 : lt x y
    · have e := lt_total h3 h1
      subst e
      rw [h2] at h
      exact h.symm
    · have := lt_trans h h3
      rw [h2] at this
      exact this.symm
/-- Go's '<=' on strings. -/
theorem leq_iff (x y : ByteArray) : (Op.bytesLess x.toList y.toList || x.toList == y.toList) = !(lt y x) := by
  rw [eq_iff]
  show (lt x y || decide (x = y)) = _
  cases h : lt x y
  · by_cases e : x = y
    · subst e; simp [lt_irrefl]
    · cases h2 : lt y x
      · exact absurd (lt_total h h2) e
      · simp [e]
  · simp [lt_asymm h]

/-! ### Sequences -/
/-- f with x laid at k. -/
def upd (f : Nat → ByteArray) (k : Nat) (x : ByteArray) : Nat → ByteArray := fun i => if i = k then x else f i
theorem upd_same (f : Nat → ByteArray) (k : Nat) (x : ByteArray) : upd f k x k = x := by simp [upd]
theorem upd_other (f : Nat → ByteArray) {k i : Nat} (x : ByteArray) (h : i ≠ k) : upd f k x i = f i := by simp [upd, h]

/-- How often x stands among the first n. -/
def cnt (f : Nat → ByteArray) (x : ByteArray) : Nat → Nat
  | 0 => 0
  | n + 1 => cnt f x n + if f n = x then 1 else 0

theorem cnt_congr {f g : Nat → ByteArray} (x : ByteArray) : ∀ n, (∀ i, i < n → f i = g i) → cnt f x n = cnt g x n
  | 0, _ => rfl
  | n + 1, h => by
    rw [cnt, cnt, cnt_congr x n (fun i hi => h i (by omega)), h n (by omega)]

theorem cnt_upd (f : Nat → ByteArray) (k : Nat) (v x : ByteArray) : cnt (upd f k v) x k = cnt f x k :=
  cnt_congr x k fun i hi => upd_other f v (by omega)

/-- No later one among a .. b-1 is below an earlier one. -/
def Sorted (f : Nat → ByteArray) (a b : Nat) : Prop := ∀ p q, a ≤ p → p < q → q < b → lt (f q) (f p) = false

/-- Each run of 'wd' places is sorted, as far as 'm'. -/
def Runs (f : Nat → ByteArray) (wd m : Nat) : Prop := ∀ c p q, c * wd ≤ p → p < q → q < (c + 1) * wd → q < m → lt (f q) (f p) = false

theorem Runs.one (f : Nat → ByteArray) (m : Nat) : Runs f 1 m := fun c p q h1 h2 h3 _ => by omega
theorem Runs.sorted {f : Nat → ByteArray} {wd n : Nat} (h : Runs f wd n) (hw : n ≤ wd) : Sorted f 0 n := fun p q _ h2 h3 => h 0 p q (by omega) h2 (by omega) h3

/-- THE MERGE IN MID-COURSE: lo, mid, hi: the two runs of A; i, j: what is left of them; B holds what has been taken as far as k. -/
structure Merging (A B : Nat → ByteArray) (lo mid hi i j k : Nat) : Prop where
  i0 : lo ≤ i
  i1 : i ≤ mid
  j0 : mid ≤ j
  j1 : j ≤ hi
  kk : k + mid = i + j
  cn : ∀ x, cnt B x k + cnt A x mid = cnt A x i + cnt A x j
  so : Sorted B lo k
  left : ∀ p q, lo ≤ p → p < k → i ≤ q → q < mid → lt (A q) (B p) = false
  right : ∀ p q, lo ≤ p → p < k → j ≤ q → q < hi → lt (A q) (B p) = false

theorem Merging.start {A B : Nat → ByteArray} {lo mid hi : Nat} (h1 : lo ≤ mid) (h2 : mid ≤ hi) (hc : ∀ x, cnt B x lo = cnt A x lo) : Merging A B lo mid hi lo mid lo where
  i0 := Nat.le_refl _
  i1 := h1
  j0 := Nat.le_refl _
  j1 := h2
  kk := rfl
  cn x := by rw [hc]
  so p q _ _ _ := by omega
  left p q _ _ := by omega
  right p q _ _ := by omega

/-- It takes from the left run. -/
theorem Merging.takeL {A B : Nat → ByteArray} {lo mid hi i j k : Nat} (h : Merging A B lo mid hi i j k) (sl : Sorted A lo mid) (sr : Sorted A mid hi) (hi1 : i < mid) (hj : hi ≤ j ∨ lt (A j) (A i) = false) :
    Merging A (upd B k (A i)) lo mid hi (i + 1) j (k + 1) := by
  obtain ⟨i0, i1, j0, j1, kk, cn, so, left, right⟩ := h
  refine ⟨by omega, by omega, j0, j1, by omega, fun x => ?_, fun p q hp hpq hq => ?_, fun p q hp hpk hq hqm => ?_, fun p q hp hpk hq hqm => ?_⟩
  · have := cn x
    rw [cnt, cnt_upd, upd_same, cnt]
    omega
  · by_cases e : q = k
    · subst e
      rw [upd_same, upd_other _ _ (by omega)]
      exact left p i hp hpq (Nat.le_refl _) hi1
    · rw [upd_other _ _ e, upd_other _ _ (by omega)]
      exact so p q hp hpq (by omega)
  · by_cases e : p = k
    · subst e
      rw [upd_same]
      exact sl i q (by omega) (by omega) hqm
    · rw [upd_other _ _ e]
      exact left p q hp (by omega) (by omega) hqm
  · by_cases e : p = k
    · subst e
      rw [upd_same]
      rcases hj with hj | hj
      · omega
      · by_cases e2 : q = j
        · subst e2; exact hj
        · exact le_trans hj (sr j q (by omega) (by omega) hqm)
    · rw [upd_other _ _ e]
      exact right p q hp (by omega) hq hqm

/-- It takes from the right run. -/
theorem Merging.takeR {A B : Nat → ByteArray} {lo mid hi i j k : Nat} (h : Merging A B lo mid hi i j k) (sl : Sorted A lo mid) (sr : Sorted A mid hi) (hj1 : j < hi) (hi' : mid ≤ i ∨ lt (A j) (A i) = true) :
    Merging A (upd B k (A j)) lo mid hi i (j + 1) (k + 1) := by
  obtain ⟨i0, i1, j0, j1, kk, cn, so, left, right⟩ := h
  refine ⟨i0, i1, by omega, by omega, by omega, fun x => ?_, fun p q hp hpq hq => ?_, fun p q hp hpk hq hqm => ?_, fun p q hp hpk hq hqm => ?_⟩
  · have := cn x
    rw [cnt, cnt_upd, upd_same, cnt]
    omega
  · by_cases e : q = k
    · subst e
      rw [upd_same, upd_other _ _ (by omega)]
      exact right p j hp hpq (Nat.le_refl _) hj1
    · rw [upd_other _ _ e, upd_other _ _ (by omega)]
      exact so p q hp hpq (by omega)
  · by_cases e : p = k
    · subst e
      rw [upd_same]
      rcases hi' with hi' | hi'
      · omega
      · by_cases e2 : q = i
        · subst e2; exact lt_asymm hi'
        · exact le_trans (lt_asymm hi') (sl i q (by omega) (by omega) hqm)
    · rw [upd_other _ _ e]
      exact left p q hp (by omega) hq hqm
  · by_cases e : p = k
    · subst e
      rw [upd_same]
      exact sr j q (by omega) (by omega) hqm
    · rw [upd_other _ _ e]
      exact right p q hp (by omega) (by omega) hqm

theorem Merging.fin {A B : Nat → ByteArray} {lo mid hi i j k : Nat} (h : Merging A B lo mid hi i j k) (hk : hi ≤ k) : k = hi ∧ (∀ x, cnt B x hi = cnt A x hi) ∧ Sorted B lo hi := by
  obtain ⟨i0, i1, j0, j1, kk, cn, so, left, right⟩ := h
  have e1 : i = mid := by omega
  have e2 : j = hi := by omega
  have e3 : k = hi := by omega
  subst e1; subst e2; subst e3
  exact ⟨rfl, fun x => by have := cn x; omega, so⟩

/-- THE PASS IN MID-COURSE: as far as 'lo' (the c-th pair of runs of wd places) B holds A's strings, in runs of 2 wd. -/
structure Passing (A B : Nat → ByteArray) (wd n c lo : Nat) : Prop where
  lo_eq : lo = c * (2 * wd)
  cn : ∀ x, cnt B x (min lo n) = cnt A x (min lo n)
  runs : Runs B (2 * wd) (min lo n)

theorem Passing.start (A B : Nat → ByteArray) (wd n : Nat) : Passing A B wd n 0 0 where
  lo_eq := by omega
  cn x := by simp [cnt]
  runs c p q _ _ _ h := by omega

theorem Passing.sl {A : Nat → ByteArray} {wd n c lo : Nat} (hA : Runs A wd n) (e : lo = c * (2 * wd)) : Sorted A lo (min (lo + wd) n) := fun p q h1 h2 h3 =>
  hA (2 * c) p q (by rw [e] at h1; rw [Nat.mul_comm 2 c, Nat.mul_assoc]; exact h1) h2 (by
    have : (2 * c + 1) * wd = lo + wd := by rw [Nat.add_mul, e, Nat.mul_comm 2 c, Nat.mul_assoc]; omega
    omega) (by omega)

theorem Passing.sr {A : Nat → ByteArray} {wd n c lo : Nat} (hA : Runs A wd n) (e : lo = c * (2 * wd)) : Sorted A (min (lo + wd) n) (min (lo + 2 * wd) n) := fun p q h1 h2 h3 =>
  hA (2 * c + 1) p q (by
    have : (2 * c + 1) * wd = lo + wd := by rw [Nat.add_mul, e, Nat.mul_comm 2 c, Nat.mul_assoc]; omega
    omega) h2 (by
    have : (2 * c + 1 + 1) * wd = lo + 2 * wd := by rw [show 2 * c + 1 + 1 = 2 * c + 2 by omega, Nat.add_mul, e, Nat.mul_comm 2 c, Nat.mul_assoc]
    omega) (by omega)

/-- One merge on: B0: what stood in B ahead of it (nothing below lo has turned). -/
theorem Passing.step {A B0 B : Nat → ByteArray} {wd n c lo : Nat} (h : Passing A B0 wd n c lo) (hlo : lo < n) (keep : ∀ i, i < lo → B i = B0 i) (hc : ∀ x, cnt B x (min (lo + 2 * wd) n) = cnt A x (min (lo + 2 * wd) n)) (hs : Sorted B lo (min (lo + 2 * wd) n)) :
    Passing A B wd n (c + 1) (lo + 2 * wd) where
  lo_eq := by rw [Nat.add_mul, ← h.lo_eq]; omega
  cn := hc
  runs c' p q h1 h2 h3 h4 := by
    by_cases hq : q < lo
    · rw [keep q hq, keep p (by omega)]
      exact h.runs c' p q h1 h2 h3 (by omega)
    · have e := h.lo_eq
      have hc' : c < c' + 1 := Nat.lt_of_mul_lt_mul_right (a := 2 * wd) (by omega)
      have : c * (2 * wd) ≤ c' * (2 * wd) := Nat.mul_le_mul_right _ (by omega)
      exact hs p q (by omega) h2 h4

theorem Passing.fin {A B : Nat → ByteArray} {wd n c lo : Nat} (h : Passing A B wd n c lo) (hlo : n ≤ lo) : (∀ x, cnt B x n = cnt A x n) ∧ Runs B (2 * wd) n := by
  have h1 := h.cn
  have h2 := h.runs
  rw [Nat.min_eq_right hlo] at h1 h2
  exact ⟨h1, h2⟩

end Go.Proofs.Qxb6612962a.Plain
