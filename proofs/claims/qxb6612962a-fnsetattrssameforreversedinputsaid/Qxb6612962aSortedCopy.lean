/-
  Seat b6612962a: sortedCopy: the bottom-up merge sort, walked.
-/
import Derived.Test.Qxb6612962aSmall
import Derived.WalkLawsBesides
import Derived.Deep.CutRange
namespace Go.Proofs.Qxb6612962a.Sets
open Go.RowKit Go.Proofs.Qxb6612962a.Plain

/-- A row of n strings that the call itself has laid, at the head of block X. -/
structure Row (w wr : World) (X n : Nat) (F : Nat → ByteArray) : Prop where
  lo : w.heap.size ≤ X
  hi : X < wr.heap.size
  cell : ∀ i, i < n → wr.cell? ⟨X, i, none⟩ = some (.string (F i))
  free : ∀ i, i < n → wr.frozen? ⟨X, i, none⟩ = false

theorem Row.drewN {w wr : World} {X n : Nat} {F : Nat → ByteArray} (h : Row w wr X n F) (q : Nat) : Row w (wr.drewN q) X n F := ⟨h.lo, h.hi, h.cell, h.free⟩

theorem Row.new (w wr : World) (n : Nat) (hw : w.heap.size ≤ wr.heap.size) : Row w (wr.alloc (.cells (madeCells #[.string ByteArray.empty] n) 9)) wr.heap.size n (fun _ => ByteArray.empty) where
  lo := hw
  hi := by simp
  cell i hi := by
    rw [World.cell?_alloc_new]
    simp [madeCells, hi, Nat.mod_one]
  free i hi := by simp

theorem Row.alloc {w wr : World} {X n : Nat} {F : Nat → ByteArray} (h : Row w wr X n F) (o : Obj) : Row w (wr.alloc o) X n F where
  lo := h.lo
  hi := by have := h.hi; simp; omega
  cell i hi := by
    rw [World.cell?_alloc_past _ _ _ h.hi]
    exact h.cell i hi
  free i hi := by
    rw [World.frozen?_alloc_past _ _ _ h.hi]
    exact h.free i hi

theorem Row.store {w wr : World} {X n : Nat} {F : Nat → ByteArray} (h : Row w wr X n F) {k : Nat} (hk : k < n) (v : ByteArray) : Row w (wr.setCell ⟨X, k, none⟩ (.string v)) X n (upd F k v) where
  lo := h.lo
  hi := by have := h.hi; simpa [World.setCell] using this
  cell i hi := by
    by_cases e : i = k
    · subst e
      rw [World.cell?_setCell_same _ _ _ (h.cell i hi), upd_same]
    · rw [World.cell?_setCell_other _ _ _ _ (by intro h; injection h with _ h; exact e h.symm), upd_other _ _ e]
      exact h.cell i hi
  free i hi := by
    rw [World.frozen?_setCell]
    exact h.free i hi

theorem Row.other {w wr : World} {X n : Nat} {F : Nat → ByteArray} (h : Row w wr X n F) {Y : Nat} (hY : Y ≠ X) (k : Nat) (u : Value) : Row w (wr.setCell ⟨Y, k, none⟩ u) X n F where
  lo := h.lo
  hi := by have := h.hi; simpa [World.setCell] using this
  cell i hi := by
    rw [World.cell?_setCell_other _ _ _ _ (by intro h; injection h with h _; exact hY h)]
    exact h.cell i hi
  free i hi := by
    rw [World.frozen?_setCell]
    exact h.free i hi

/-- What sortedCopy leaves: a new row that holds the names in byte order. -/
def SortedRet (w : World) (n : Nat) (f : Nat → ByteArray) (e : Ending) (w' : World) : Prop :=
  ∃ X F, e = .returned (.slice (some ⟨X, 0, none⟩) n n) ∧ Row w w' X n F ∧ Below w.heap.size w w' ∧ (∀ x, cnt F x n = cnt f x n) ∧ Sorted F 0 n

theorem Try.info9 : (Try.prog.info? 9).map (fun i => (i.zero, i.size, i.bytes)) = some (some (.string ByteArray.empty), 1, 16) := by kernel_rfl

theorem make_strings (n : Nat) (hn : n ≤ 1048576) (w : World) :
    (Instr.makeSlice 25 (.int .i64 n) (.int .i64 n)).run Try.prog w = .ok (.slice (some ⟨w.heap.size, 0, none⟩) n n) (w.alloc (.cells (madeCells #[.string ByteArray.empty] n) 9)) := by
  obtain ⟨i0, hi, hz0, hz1, hz2⟩ := info_parts Try.info9
  have h := run_make (P := Try.prog) w 25 9 i0 _ Try.underlying25 hi hz0 .i64 .i64 (n : Int) (n : Int) (by omega) (by omega) (by rw [hz2]; omega) (by omega)
  rw [hz1] at h
  simpa [Value.cells] using h


theorem Runs.mono_name {A : Nat → ByteArray} {wd n : Nat} (h : Runs A (2 * wd) n) : Runs A (wd * 2) n := by rw [Nat.mul_comm]; exact h

/-- Nothing below lo has turned. -/
def Keeps (B' B : Nat → ByteArray) (lo : Nat) : Prop := ∀ p, p < lo → B' p = B p

theorem Keeps.upd {B' B : Nat → ByteArray} {lo l : Nat} {x : ByteArray} (h : Keeps B' B lo) (hl : lo ≤ l) : Keeps (Plain.upd B' l x) B lo := fun p hp => by
  rw [upd_other _ _ (by omega)]; exact h p hp

theorem below_draws {B : Nat} {w wr : World} (h : Below B w wr) (q : Nat) : Below B w (wr.drewN q) := ⟨h.os, h.tape, h.output, h.size, h.block⟩

set_option maxRecDepth 10000 in
set_option maxHeartbeats 2000000 in
theorem sortedCopy_any {a : Option Addr} {n : Nat} (c : Nat) {f : Nat → ByteArray} (w : World) (hn : n ≤ 1048576) (h : Strs w a n f) :
    Calls Try.prog 12 #[.slice a n c] w (SortedRet w n f) := by
  have hmk := make_strings n hn
  rcases h with rfl | ⟨b, off, rfl, hb, hc⟩
  · have hR2 : Row w ((w.alloc (.cells (madeCells #[.string ByteArray.empty] 0) 9)).alloc (.cells (madeCells #[.string ByteArray.empty] 0) 9)) w.heap.size 0 (fun _ => ByteArray.empty) := (Row.new w w 0 (Nat.le_refl _)).alloc _
    have hB2 : Below w.heap.size w ((w.alloc (.cells (madeCells #[.string ByteArray.empty] 0) 9)).alloc (.cells (madeCells #[.string ByteArray.empty] 0) 9)) := ((Below.refl _ _).alloc (Nat.le_refl _) _).alloc (by simp) _
    have HR : Hid _ := And.intro hR2 hB2
    clear hR2 hB2
    have hmk0 : ∀ w : World, (Instr.makeSlice 25 (.int .i64 0) (.int .i64 0)).run Try.prog w = .ok (.slice (some ⟨w.heap.size, 0, none⟩) 0 0) (w.alloc (.cells (madeCells #[.string ByteArray.empty] 0) 9)) := hmk
    clear hmk
    go_enter Try.func12, Try.ntmps12
    go_wp2
    refine wp_loop_rounds 1 ?_
    rw [rounds_succ]
    go_wp2
    refine wp_loop_rounds 1 ?_
    rw [rounds_succ]
    go_wp2
    go_ret
    exact ⟨_, _, rfl, HR.out.1, HR.out.2, fun x => rfl, fun p q _ _ _ => by omega⟩
  go_enter Try.func12, Try.ntmps12
  go_wp2
  go_loopw [5] (fun v wr => ∃ (k : Nat) (F : Nat → ByteArray), k ≤ n ∧ v = .int .i64 k ∧ Row w wr w.heap.size n F ∧ Below w.heap.size w wr ∧ wr.heap.size = w.heap.size + 1 ∧ ∀ p, p < k → F p = f p) (fun v _ => n - (intOf v).toNat)
  case atStart => exact ⟨0, _, Nat.zero_le _, rfl, Row.new w w n (Nat.le_refl _), (Below.refl _ _).alloc (Nat.le_refl _) _, by simp, fun p hp => by omega⟩
  case round =>
    obtain ⟨k, F, hk, rfl, hR, hB, hsz, hF⟩ := hrel
    by_cases hlt : k < n
    · have h0 : wr.cell? ⟨b, off + k, none⟩ = some (.string (f k)) := (hB.cell (p := ⟨b, off + k, none⟩) hb).trans (hc k hlt)
      have h1 := hR.cell k hlt
      have h2 := hR.free k hlt
      go_wp2
      go_roundw
      case rel =>
        refine ⟨k + 1, upd F k (f k), by omega, by go_num, hR.store hlt _, hB.setCell (Nat.le_refl _) _, by simpa [World.setCell] using hsz, fun p hp => ?_⟩
        by_cases e : p = k
        · subst e; exact upd_same _ _ _
        · rw [upd_other _ _ e]; exact hF p (by omega)
      case measure => simp [intOf]; omega
    have hkn : k = n := by omega
    subst hkn
    obtain ⟨B0, hB0⟩ : ∃ B0, B0 = w.heap.size := ⟨_, rfl⟩
    have HB0 : Hid (B0 = w.heap.size) := hB0
    have hF0 : ∀ x, cnt F x k = cnt f x k := fun x => cnt_congr x k hF
    go_wp2
    have hR1 : Row w (wr.alloc (.cells (madeCells #[.string ByteArray.empty] k) 9)) w.heap.size k F := hR.alloc _
    have hR2 : Row w (wr.alloc (.cells (madeCells #[.string ByteArray.empty] k) 9)) (w.heap.size + 1) k (fun _ => ByteArray.empty) := by
      have := Row.new w wr k (by omega)
      rwa [hsz] at this
    have hB1 : Below w.heap.size w (wr.alloc (.cells (madeCells #[.string ByteArray.empty] k) 9)) := hB.alloc (by omega) _
    clear hR hB hsz hF hc hmk hlt hb
    go_loopw [4, 6, 7] (fun va vb vw wr => ∃ (X Y wd : Nat) (A B : Nat → ByteArray), va = .slice (some ⟨X, 0, none⟩) k k ∧ vb = .slice (some ⟨Y, 0, none⟩) k k ∧ vw = .int .i64 wd ∧ 1 ≤ wd ∧ wd ≤ 2097152 ∧ X ≠ Y ∧ Row w wr X k A ∧ Row w wr Y k B ∧ Below w.heap.size w wr ∧ (∀ x, cnt A x k = cnt f x k) ∧ Runs A wd k) (fun _ _ v _ => k - (intOf v).toNat)
    case atStart => exact ⟨_, _, 1, _, _, rfl, rfl, rfl, by omega, by omega, by omega, hR1, hR2, hB1, hF0, Runs.one _ _⟩
    case round =>
      obtain ⟨X, Y, wd, A, B, rfl, rfl, rfl, hw1, hw2, hXY, hA, hBr, hBel, hcn, hruns⟩ := hrel
      clear hR1 hR2 hB1 hF0
      by_cases hlt : wd < k
      · go_wp2
        go_loopw [8] (fun vl wr => ∃ (lo c : Nat) (B : Nat → ByteArray), vl = .int .i64 lo ∧ lo ≤ k + 2 * wd ∧ Passing A B wd k c lo ∧ Row w wr X k A ∧ Row w wr Y k B ∧ Below w.heap.size w wr) (fun v _ => k - (intOf v).toNat)
        case atStart => exact ⟨0, 0, B, rfl, by omega, Passing.start _ _ _ _, hA, hBr, hBel⟩
        case round =>
          clear hA hBr hBel
          obtain ⟨lo, c, B, rfl, hlo2, hP, hA, hBr, hBel⟩ := hrel
          by_cases hlo : lo < k
          · obtain ⟨M, hM⟩ : ∃ M, M = min (lo + wd) k := ⟨_, rfl⟩
            obtain ⟨H, hH⟩ : ∃ H, H = min (lo + 2 * wd) k := ⟨_, rfl⟩
            have HM : Hid (M = min (lo + wd) k) := hM
            have HH : Hid (H = min (lo + 2 * wd) k) := hH
            have sl : Sorted A lo M := by rw [hM]; exact Passing.sl hruns hP.lo_eq
            have sr : Sorted A M H := by rw [hM, hH]; exact Passing.sr hruns hP.lo_eq
            have hM0 : lo ≤ M := by omega
            have hMH : M ≤ H := by omega
            have hHk : H ≤ k := by omega
            have hst : Merging A B lo M H lo M lo := Merging.start hM0 hMH (fun x => by have := hP.cn x; rwa [Nat.min_eq_left (by omega)] at this)
            clear hM hH
            go_upto_if 49 with fail
            go_cut [9] from 37 to 103 (fun s wc => s = .int .i64 M ∧ wc = wr)
            case first =>
              go_wp2
              all_goals
                go_meet
                case rel => exact ⟨congrArg (Value.int .i64) (by have := HM.out; omega), rfl⟩
            case rest =>
              obtain ⟨rfl, rfl⟩ := hcut
              go_upto_if 57 with fail
              obtain ⟨wo, rfl⟩ : ∃ wo, wo = wc := ⟨_, rfl⟩
              go_cut [10] from 37 to 103 (fun s wc => s = .int .i64 H ∧ wc = wo)
              case first =>
                go_wp2
                all_goals
                  go_meet
                  case rel => exact ⟨congrArg (Value.int .i64) (by have := HH.out; omega), rfl⟩
              case rest =>
                obtain ⟨rfl, rfl⟩ := hcut
                go_wp2
                go_loopw [11, 12, 13] (fun vi vj vk wr => ∃ (i j l : Nat) (B' : Nat → ByteArray), vi = .int .i64 i ∧ vj = .int .i64 j ∧ vk = .int .i64 l ∧ Merging A B' lo M H i j l ∧ Keeps B' B lo ∧ Row w wr X k A ∧ Row w wr Y k B' ∧ Below w.heap.size w wr) (fun _ _ v _ => H - (intOf v).toNat)
                case atStart => exact ⟨lo, M, lo, B, rfl, rfl, rfl, hst, fun _ _ => rfl, hA, hBr, hBel⟩
                case round =>
                  clear hA hBr hBel hst
                  obtain ⟨i, j, l, B', rfl, rfl, rfl, hm, hkp, hA, hBr, hBel⟩ := hrel
                  have q1 := hm.i1
                  have q2 := hm.j1
                  have q3 := hm.i0
                  have q4 := hm.j0
                  have q5 : Hid (l + M = i + j) := hm.kk
                  by_cases hl : l < H
                  · have c2 := hBr.cell l (by omega)
                    have c3 := hBr.free l (by omega)
                    by_cases hi : i < M
                    · have c0 := hA.cell i (by omega)
                      have d1 : (i : Int) < (M : Int) := by omega
                      by_cases hj : H ≤ j
                      · have d2 : (H : Int) ≤ (j : Int) := by omega
                        go_wp2
                        go_quiet (fail)
                        go_wp2
                        exact ⟨⟨i + 1, j, l + 1, upd B' l (A i), by go_num, rfl, by go_num, hm.takeL sl sr hi (Or.inl hj), hkp.upd (by have := q5.out; omega), (hA.drewN nq).other (Ne.symm hXY) _ _, (hBr.drewN nq).store (by omega) _, (below_draws hBel nq).setCell hBr.lo _⟩, by simp [intOf]; omega⟩
                      · have d2 : decide ((H : Int) ≤ (j : Int)) = false := decide_eq_false (by omega)
                        have c1 := hA.cell j (by omega)
                        have b1 : (i : Int) < (k : Int) := by omega
                        have b2 : (j : Int) < (k : Int) := by omega
                        cases hle : lt (A j) (A i)
                        · have d3 : (Op.bytesLess (A i).toList (A j).toList || (A i).toList == (A j).toList) = true := by rw [leq_iff, hle]; rfl
                          go_wp2
                          go_quiet (fail)
                          go_wp2
                          exact ⟨⟨i + 1, j, l + 1, upd B' l (A i), by go_num, rfl, by go_num, hm.takeL sl sr hi (Or.inr hle), hkp.upd (by have := q5.out; omega), (hA.drewN nq).other (Ne.symm hXY) _ _, (hBr.drewN nq).store (by omega) _, (below_draws hBel nq).setCell hBr.lo _⟩, by simp [intOf]; omega⟩
                        · have d3 : (Op.bytesLess (A i).toList (A j).toList || (A i).toList == (A j).toList) = false := by rw [leq_iff, hle]; rfl
                          go_wp2
                          go_quiet (fail)
                          go_wp2
                          exact ⟨⟨i, j + 1, l + 1, upd B' l (A j), rfl, by go_num, by go_num, hm.takeR sl sr (by omega) (Or.inr hle), hkp.upd (by have := q5.out; omega), (hA.drewN nq).other (Ne.symm hXY) _ _, (hBr.drewN nq).store (by omega) _, (below_draws hBel nq).setCell hBr.lo _⟩, by simp [intOf]; omega⟩
                    · have d1 : decide ((i : Int) < (M : Int)) = false := decide_eq_false (by omega)
                      have hjl : j < H := by have := q5.out; omega
                      have c1 := hA.cell j (by omega)
                      go_wp2
                      go_quiet (fail)
                      go_wp2
                      exact ⟨⟨i, j + 1, l + 1, upd B' l (A j), rfl, by go_num, by go_num, hm.takeR sl sr hjl (Or.inl (by omega)), hkp.upd (by have := q5.out; omega), (hA.drewN nq).other (Ne.symm hXY) _ _, (hBr.drewN nq).store (by omega) _, (below_draws hBel nq).setCell hBr.lo _⟩, by simp [intOf]; omega⟩
                  · obtain ⟨-, f2, f3⟩ := hm.fin (by omega)
                    have hst : Passing A B' wd k (c + 1) (lo + 2 * wd) := hP.step hlo hkp (by rw [← HH.out]; exact f2) (by rw [← HH.out]; exact f3)
                    clear f2 f3
                    go_wp2
                    exact ⟨⟨lo + 2 * wd, c + 1, B', by go_num, by omega, hst, hA, hBr, hBel⟩, by simp [intOf]; omega⟩
          · have hfin : Hid _ := hP.fin (by omega)
            go_wp2
            exact ⟨⟨Y, X, wd * 2, B, A, rfl, rfl, by go_num, by omega, by omega, Ne.symm hXY, hBr, hA, hBel, fun x => (hfin.out.1 x).trans (hcn x), Runs.mono_name hfin.out.2⟩, by simp [intOf]; omega⟩
      · go_wp2
        go_ret
        exact ⟨X, A, rfl, hA, hBel, hcn, hruns.sorted (by omega)⟩
end Go.Proofs.Qxb6612962a.Sets
