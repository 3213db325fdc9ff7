/-
  Seat b6612962a: NewSet, newSetOf: walked.
-/
import Derived.Test.Qxb6612962aSetOf
namespace Go.Proofs.Qxb6612962a.Sets
open Go.RowKit Go.Proofs.Qxb6612962a.Plain

theorem NewSet_any {X n : Nat} (c : Nat) {F : Nat → ByteArray} {w : World} (h : AR w X n F) (hn : n ≤ 1048576) :
    Calls Try.prog 22 #[.slice (some ⟨X, 0, none⟩) n c] w (SetRet w X n c F) := by
  go_enter Try.func22, Try.ntmps22
  go_wp2_with fail
  refine (setOf_any c h hn).mono ?_
  rintro e w1 ⟨S, F', rfl, r⟩
  go_wp2
  go_ret
  exact ⟨S, F', rfl, r⟩

theorem Try.info36 : (Try.prog.info? 36).map (fun i => (i.zero, i.size, i.bytes)) = some (some (.agg #[.string ByteArray.empty, .nilIface]), 2, 32) := by kernel_rfl

theorem make_attrs (n : Nat) (hn : n ≤ 1048576) (w : World) :
    (Instr.makeSlice 29 (.int .i64 n) (.int .i64 n)).run Try.prog w = .ok (.slice (some ⟨w.heap.size, 0, none⟩) n n) (w.alloc (.cells (madeCells #[.string ByteArray.empty, .nilIface] (n * 2)) 36)) := by
  obtain ⟨i0, hi, hz0, hz1, hz2⟩ := info_parts Try.info36
  have h := run_make (P := Try.prog) w 29 36 i0 _ Try.underlying29 hi hz0 .i64 .i64 (n : Int) (n : Int) (by omega) (by omega) (by rw [hz2]; omega) (by omega)
  rw [hz1] at h
  simpa [Value.cells] using h

theorem AR.new (w : World) (n : Nat) : AR (w.alloc (.cells (madeCells #[.string ByteArray.empty, .nilIface] (n * 2)) 36)) w.heap.size n (fun _ => ByteArray.empty) where
  hi := by simp
  name i hi := by
    rw [World.cell?_alloc_new]
    have : i * 2 < n * 2 := by omega
    simp [madeCells, this]
  val i hi := by
    rw [World.cell?_alloc_new]
    have : i * 2 + 1 < n * 2 := by omega
    simp [madeCells, this]
  free i hi := by simp

theorem AR.store {w : World} {X n : Nat} {F : Nat → ByteArray} (h : AR w X n F) {k : Nat} (hk : k < n) (v : ByteArray) : AR ((w.setCell ⟨X, k * 2, none⟩ (.string v)).setCell ⟨X, k * 2 + 1, none⟩ .nilIface) X n (upd F k v) where
  hi := by have := h.hi; simpa [World.setCell] using this
  name i hi := by
    rw [World.cell?_setCell_other _ _ _ _ (by intro h; injection h with _ h; omega)]
    by_cases e : i = k
    · subst e
      rw [World.cell?_setCell_same _ _ _ (h.name i hi), upd_same]
    · rw [World.cell?_setCell_other _ _ _ _ (by intro h; injection h with _ h; omega), upd_other _ _ e]
      exact h.name i hi
  val i hi := by
    by_cases e : i = k
    · subst e
      refine World.cell?_setCell_same (u := .nilIface) _ _ _ ?_
      rw [World.cell?_setCell_other _ _ _ _ (by intro h; injection h with _ h; omega)]
      exact h.val i hi
    · rw [World.cell?_setCell_other _ _ _ _ (by intro h; injection h with _ h; omega), World.cell?_setCell_other _ _ _ _ (by intro h; injection h with _ h; omega)]
      exact h.val i hi
  free i hi := by
    simp only [World.frozen?_setCell]
    exact h.free i hi

/-- What newSetOf leaves: a new set over none: the names in byte order. -/
def NewRet (w : World) (n : Nat) (f : Nat → ByteArray) (e : Ending) (w' : World) : Prop :=
  ∃ S X F, e = .returned (.pointer (some ⟨S, 0, none⟩)) ∧ w.heap.size ≤ S ∧ w.heap.size ≤ X ∧ SetAt w' S X n n F ∧ Below w.heap.size w w' ∧ (∀ x, cnt F x n = cnt f x n) ∧ Sorted F 0 n

set_option maxHeartbeats 1000000 in
theorem newSetOf_any {a : Option Addr} {n : Nat} (c : Nat) {f : Nat → ByteArray} (w : World) (hn : n ≤ 1048576) (h : Strs w a n f) :
    Calls Try.prog 14 #[.slice a n c] w (NewRet w n f) := by
  have hmk := make_attrs n hn
  rcases h with rfl | ⟨b, off, rfl, hb, hc⟩
  · have hmk0 : ∀ w : World, (Instr.makeSlice 29 (.int .i64 0) (.int .i64 0)).run Try.prog w = .ok (.slice (some ⟨w.heap.size, 0, none⟩) 0 0) (w.alloc (.cells (madeCells #[.string ByteArray.empty, .nilIface] (0 * 2)) 36)) := hmk
    clear hmk
    go_enter Try.func14, Try.ntmps14
    go_wp2
    refine wp_loop_rounds 1 ?_
    rw [rounds_succ]
    go_wp2_with fail
    refine (NewSet_any 0 (AR.new w 0) hn).mono ?_
    rintro e w1 ⟨S, F', rfl, hS, hset, hg, hcn, hso⟩
    have hB1 : Below w.heap.size w w1 := ((Below.refl _ _).alloc (Nat.le_refl _) _).grown hg (by simp) (fun j e => by cases e; exact Nat.le_refl _)
    have hS' : w.heap.size ≤ S := Nat.le_trans (by simp) hS
    clear hg hcn hso hS
    go_wp2
    go_ret
    exact ⟨S, w.heap.size, F', rfl, hS', Nat.le_refl _, hset, hB1, fun x => rfl, fun p q _ _ _ => by omega⟩
  go_enter Try.func14, Try.ntmps14
  go_wp2
  go_loopw [4] (fun v wr => ∃ (k : Nat) (F : Nat → ByteArray), k ≤ n ∧ v = .int .i64 k ∧ AR wr w.heap.size n F ∧ Below w.heap.size w wr ∧ ∀ p, p < k → F p = f p) (fun v _ => n - (intOf v).toNat)
  case atStart => exact ⟨0, _, Nat.zero_le _, rfl, AR.new w n, (Below.refl _ _).alloc (Nat.le_refl _) _, fun p hp => by omega⟩
  case round =>
    obtain ⟨k, F, hk, rfl, hR, hB, hF⟩ := hrel
    by_cases hlt : k < n
    · have h0 : wr.cell? ⟨b, off + k, none⟩ = some (.string (f k)) := (hB.cell (p := ⟨b, off + k, none⟩) hb).trans (hc k hlt)
      have h1 := hR.name k hlt
      have h2 := (hR.free k hlt).1
      have h3 := hR.val k hlt
      have h4 := (hR.free k hlt).2
      go_wp2
      refine ⟨⟨k + 1, upd F k (f k), by omega, by go_num, hR.store hlt _, (hB.setCell (Nat.le_refl _) _).setCell (Nat.le_refl _) _, fun p hp => ?_⟩, by simp [intOf]; omega⟩
      by_cases e : p = k
      · subst e; exact upd_same _ _ _
      · rw [upd_other _ _ e]; exact hF p (by omega)
    · have hkn : k = n := by omega
      subst hkn
      have hF0 : Hid (∀ x, cnt F x k = cnt f x k) := fun x => cnt_congr x k hF
      clear hF hc hmk hlt
      go_wp2_with fail
      refine (NewSet_any k hR hn).mono ?_
      rintro e w1 ⟨S, F', rfl, hS, hset, hg, hcn, hso⟩
      have hB1 : Below w.heap.size w w1 := hB.grown hg hB.size (fun j e => by cases e; exact Nat.le_refl _)
      have H : Hid _ := And.intro hcn hso
      have hS' : w.heap.size ≤ S := Nat.le_trans hB.size hS
      clear hg hcn hso hB
      go_wp2
      go_ret
      exact ⟨S, w.heap.size, F', rfl, hS', Nat.le_refl _, hset, hB1, fun x => (H.out.1 x).trans (hF0.out x), H.out.2⟩
end Go.Proofs.Qxb6612962a.Sets
