/-
  Seat b6612962a: search, locate, find, ZZfind, Attrs: walked.
-/
import Derived.Test.Qxb6612962aNewSet
namespace Go.Proofs.Qxb6612962a.Sets
open Go.RowKit Go.Proofs.Qxb6612962a.Plain

/-- What search answers: an index at which q stands; -1 only where q stands nowhere. -/
def SearchRet (F : Nat → ByteArray) (n : Nat) (q : ByteArray) (e : Ending) : Prop :=
  (∃ i : Nat, i < n ∧ F i = q ∧ e = .returned (.int .i64 i)) ∨ (¬ Has F n q ∧ e = .returned (.int .i64 (-1)))

/-- All before lo are below q; none from hi on is. -/
def Halved (F : Nat → ByteArray) (q : ByteArray) (n lo hi : Nat) : Prop := (∀ i, i < lo → lt (F i) q = true) ∧ ∀ i, hi ≤ i → i < n → lt (F i) q = false

theorem Halved.up {F : Nat → ByteArray} {q : ByteArray} {n lo hi m : Nat} (h : Halved F q n lo hi) (hS : Sorted F 0 n) (hm : m < n) (hlt : lt (F m) q = true) : Halved F q n (m + 1) hi :=
  ⟨fun i hi' => by
    by_cases e : i = m
    · subst e; exact hlt
    · cases hc : lt (F i) q
      · have := le_trans hc (hS i m (by omega) (by omega) hm)
        rw [hlt] at this
        exact this.symm
      · rfl, h.2⟩

theorem Halved.down {F : Nat → ByteArray} {q : ByteArray} {n lo hi m : Nat} (h : Halved F q n lo hi) (hS : Sorted F 0 n) (hlt : lt (F m) q = false) : Halved F q n lo m :=
  ⟨h.1, fun i h1 h2 => by
    by_cases e : i = m
    · subst e; exact hlt
    · exact le_trans hlt (hS m i (by omega) (by omega) h2)⟩

theorem Halved.none {F : Nat → ByteArray} {q : ByteArray} {n m : Nat} (h : Halved F q n m m) (hS : Sorted F 0 n) (hne : m < n → F m ≠ q) : ¬ Has F n q := by
  rintro ⟨i, hi, rfl⟩
  by_cases h1 : i < m
  · have := h.1 i h1
    rw [lt_irrefl] at this
    cases this
  · by_cases e : i = m
    · subst e; exact hne hi rfl
    · have h2 := h.2 m (by omega) (by omega)
      exact hne (by omega) (lt_total h2 (hS m i (by omega) (by omega) hi))

set_option maxHeartbeats 1000000 in
theorem search_any {X n : Nat} (c : Nat) {F : Nat → ByteArray} {w : World} (q : ByteArray) (h : AR w X n F) (hn : n ≤ 1048576) (hS : Sorted F 0 n) :
    Calls Try.prog 40 #[.slice (some ⟨X, 0, none⟩) n c, .string q] w fun e w' => SearchRet F n q e ∧ w' = w := by
  by_cases h8 : n ≤ 8
  · go_enter Try.func40, Try.ntmps40
    go_wp2
    go_loop [14] (fun v => ∃ k : Nat, k ≤ n ∧ v = .int .i64 k ∧ ¬ Has F k q) (fun v => n - (intOf v).toNat)
    case atStart => exact ⟨0, by omega, rfl, fun ⟨i, hi, _⟩ => by omega⟩
    case round =>
      obtain ⟨k, hk, rfl, hA⟩ := hrel
      by_cases hlt : k < n
      · have h0 := h.name k hlt
        go_wp2
        · go_ret
          have e : ((F k).toList == q.toList) = true := by assumption
          rw [Plain.eq_iff, decide_eq_true_eq] at e
          exact ⟨Or.inl ⟨k, hlt, e, rfl⟩, rfl⟩
        · have e : ((F k).toList == q.toList) = false := by assumption
          rw [Plain.eq_iff, decide_eq_false_iff_not] at e
          go_round
          case rel =>
            refine ⟨k + 1, by omega, by go_num, fun ⟨i, hi, hs⟩ => ?_⟩
            by_cases hik : i = k
            · subst hik; exact e hs
            · exact hA ⟨i, by omega, hs⟩
          case measure => simp [intOf]; omega
      · go_wp2
        go_ret
        have hkn : k = n := by omega
        subst hkn
        exact ⟨Or.inr ⟨hA, rfl⟩, rfl⟩
  · go_enter Try.func40, Try.ntmps40
    go_wp2
    go_loop [6, 7] (fun a b => ∃ lo hi : Nat, lo ≤ hi ∧ hi ≤ n ∧ a = .int .i64 lo ∧ b = .int .i64 hi ∧ Halved F q n lo hi) (fun a b => (intOf b).toNat - (intOf a).toNat)
    case atStart => exact ⟨0, n, by omega, by omega, rfl, rfl, fun i hi => by omega, fun i h1 h2 => by omega⟩
    case round =>
      obtain ⟨lo, hi, hlh, hin, rfl, rfl, hH⟩ := hrel
      by_cases hlt : lo < hi
      · have h0 := h.name ((lo + hi) / 2) (by omega)
        cases hq : lt (F ((lo + hi) / 2)) q
        · have d : Op.bytesLess (F ((lo + hi) / 2)).toList q.toList = false := hq
          go_wp2
          exact ⟨⟨lo, (lo + hi) / 2, by omega, by omega, rfl, by go_num, hH.down hS hq⟩, by simp [intOf]; omega⟩
        · have d : Op.bytesLess (F ((lo + hi) / 2)).toList q.toList = true := hq
          go_wp2
          exact ⟨⟨(lo + hi) / 2 + 1, hi, by omega, by omega, by go_num, rfl, hH.up hS (by omega) hq⟩, by simp [intOf]; omega⟩
      · have hm : hi = lo := by omega
        subst hm
        by_cases hmn : hi = n
        · have d : ((hi : Int) == (n : Int)) = true := beq_iff_eq.2 (by omega)
          have hno : Hid (¬ Has F n q) := hH.none hS (fun h => by omega)
          clear hmn
          go_wp2
          go_ret
          exact ⟨Or.inr ⟨hno.out, rfl⟩, rfl⟩
        · have d : ((hi : Int) == (n : Int)) = false := beq_eq_false_iff_ne.2 (by omega)
          have h0 := h.name hi (by omega)
          have hlt' : hi < n := by omega
          by_cases hq : F hi = q
          · have d2 : ((F hi).toList != q.toList) = false := by rw [hq]; simp
            have d3 : ((F hi).toList == q.toList) = true := by rw [hq]; simp
            have Hq : Hid (F hi = q) := hq
            clear hq hmn
            go_wp2
            go_ret
            exact ⟨Or.inl ⟨hi, by omega, Hq.out, rfl⟩, rfl⟩
          · have d3 : ((F hi).toList == q.toList) = false := by rw [Plain.eq_iff]; exact decide_eq_false hq
            have hno : Hid (¬ Has F n q) := hH.none hS (fun _ => hq)
            clear hq hmn
            go_wp2
            go_ret
            exact ⟨Or.inr ⟨hno.out, rfl⟩, rfl⟩

/-- What find answers: a pointer to an attribute named q; nil only where there is none. -/
def FindRet (X n : Nat) (F : Nat → ByteArray) (q : ByteArray) (e : Ending) : Prop :=
  (∃ i : Nat, i < n ∧ F i = q ∧ e = .returned (.pointer (some ⟨X, i * 2, none⟩))) ∨ (¬ Has F n q ∧ e = .returned (.pointer none))

/-- What locate answers. -/
def LocRet (S n : Nat) (F : Nat → ByteArray) (q : ByteArray) (e : Ending) : Prop :=
  (∃ i : Nat, i < n ∧ F i = q ∧ e = .returned (.tuple #[.pointer (some ⟨S, 0, none⟩), .int .i64 i])) ∨ (¬ Has F n q ∧ e = .returned (.tuple #[.pointer none, .int .i64 (-1)]))

set_option maxHeartbeats 1000000 in
theorem locate_any {S X n c : Nat} {F : Nat → ByteArray} {w : World} (q : ByteArray) (h : SetAt w S X n c F) (hn : n ≤ 1048576) (hS : Sorted F 0 n) :
    Calls Try.prog 31 #[.pointer (some ⟨S, 0, none⟩), .string q] w fun e w' => LocRet S n F q e ∧ w' = w := by
  have c0 := h.attrs
  have c1 := h.under
  have hs := search_any c q h.row hn hS
  go_enter Try.func31, Try.ntmps31
  go_wp2_with fail
  refine wp_loop_rounds 2 ?_
  rw [rounds_succ]
  go_wp2_with fail
  refine hs.mono ?_
  rintro e w' ⟨⟨i, hi, hF, rfl⟩ | ⟨hno, rfl⟩, rfl⟩
  · have HF : Hid (F i = q) := hF
    clear hF hs
    go_wp2
    go_ret2
    exact ⟨Or.inl ⟨i, hi, HF.out, rfl⟩, rfl⟩
  · clear hs
    go_wp2
    rw [rounds_succ]
    go_wp2
    go_ret2
    exact ⟨Or.inr ⟨hno, rfl⟩, rfl⟩

set_option maxHeartbeats 1000000 in
theorem Attrs_any {S X n c : Nat} {F : Nat → ByteArray} {w : World} (h : SetAt w S X n c F) :
    Calls Try.prog 15 #[.pointer (some ⟨S, 0, none⟩)] w fun e w' => e = .returned (.slice (some ⟨X, 0, none⟩) n c) ∧ w' = w := by
  have c0 := h.attrs
  have c1 := h.under
  go_enter Try.func15, Try.ntmps15
  go_wp2
  go_ret
  exact ⟨rfl, rfl⟩

set_option maxHeartbeats 1000000 in
theorem find_any {S X n c : Nat} {F : Nat → ByteArray} {w : World} (q : ByteArray) (h : SetAt w S X n c F) (hn : n ≤ 1048576) (hS : Sorted F 0 n) :
    Calls Try.prog 24 #[.pointer (some ⟨S, 0, none⟩), .string q] w fun e w' => FindRet X n F q e ∧ w' = w := by
  have c0 := h.attrs
  have hl := locate_any q h hn hS
  go_enter Try.func24, Try.ntmps24
  go_wp2_with fail
  refine hl.mono ?_
  rintro e w' ⟨⟨i, hi, hF, rfl⟩ | ⟨hno, rfl⟩, rfl⟩
  · have HF : Hid (F i = q) := hF
    clear hF hl
    go_wp2
    go_ret
    exact ⟨Or.inl ⟨i, hi, HF.out, rfl⟩, rfl⟩
  · clear hl
    go_wp2
    go_ret
    exact ⟨Or.inr ⟨hno, rfl⟩, rfl⟩

theorem ZZfind_any {S X n c : Nat} {F : Nat → ByteArray} {w : World} (q : ByteArray) (h : SetAt w S X n c F) (hn : n ≤ 1048576) (hS : Sorted F 0 n) :
    Calls Try.prog 18 #[.pointer (some ⟨S, 0, none⟩), .string q] w fun e w' => FindRet X n F q e ∧ w' = w := by
  have hl := find_any q h hn hS
  go_enter Try.func18, Try.ntmps18
  go_wp2_with fail
  refine hl.mono ?_
  rintro e w' ⟨⟨i, hi, hF, rfl⟩ | ⟨hno, rfl⟩, rfl⟩
  · have HF : Hid (F i = q) := hF
    clear hF hl
    go_wp2
    go_ret
    exact ⟨Or.inl ⟨i, hi, HF.out, rfl⟩, rfl⟩
  · clear hl
    go_wp2
    go_ret
    exact ⟨Or.inr ⟨hno, rfl⟩, rfl⟩
end Go.Proofs.Qxb6612962a.Sets
