/-
  Seat b6613821a: zzClone32, zzClone64: walked.
-/
import Derived.Test.Qxb6613821aProg
import Derived.WalkKit
import Derived.Below
import Derived.Laws.CopyOwn
import Derived.Lib.SliceRun
import Derived.Deep.QuietTactic
import Derived.BigQuiet
import Derived.RegionTactic
import Derived.WalkLawsBesides
namespace Go.Proofs.Qxb6613821a.Draws
open Go.RowKit

/-- A slice of n integers in memory: z says them. -/
def IRow (k : IntKind) (w : World) (a : Option Addr) (n : Nat) (z : Nat → Int) : Prop :=
  n = 0 ∨ ∃ b off, a = some ⟨b, off, none⟩ ∧ b < w.heap.size ∧ ∀ i, i < n → w.cell? ⟨b, off + i, none⟩ = some (.int k (z i))

theorem IRow.below {k : IntKind} {w w' : World} {a : Option Addr} {n : Nat} {z : Nat → Int} (h : IRow k w a n z) (hb : Below w.heap.size w w') : IRow k w' a n z := by
  rcases h with h | ⟨b, off, h1, h2, h3⟩
  · exact Or.inl h
  · exact Or.inr ⟨b, off, h1, Nat.lt_of_lt_of_le h2 hb.size, fun i hi => (hb.cell (p := ⟨b, off + i, none⟩) h2).trans (h3 i hi)⟩

theorem IRow.grown {k : IntKind} {w w' : World} {a : Option Addr} {n : Nat} {z : Nat → Int} (h : IRow k w a n z) {S : Nat} (hg : w.grownBy w' (some S)) (hne : ∀ b off, a = some ⟨b, off, none⟩ → b ≠ S) : IRow k w' a n z := by
  rcases h with h | ⟨b, off, h1, h2, h3⟩
  · exact Or.inl h
  · have hb := hg.block b h2 (fun e => hne b off h1 (by injection e))
    exact Or.inr ⟨b, off, h1, Nat.lt_of_lt_of_le h2 hg.size, fun i hi => (World.cell?_of_block (a := ⟨b, off + i, none⟩) hb).trans (h3 i hi)⟩

/-- What a clone leaves. -/
def CloneRet (k : IntKind) (w : World) (n : Nat) (z : Nat → Int) (e : Ending) (w' : World) : Prop :=
  ∃ a c, e = .returned (.slice a n c) ∧ IRow k w' a n z ∧ (∀ b off, a = some ⟨b, off, none⟩ → w.heap.size ≤ b) ∧ Below w.heap.size w w'

theorem setRow_cell {w : World} {g : Nat} {cur : Array Value} {t : TypeId} {fr : Nat × Nat} (h : w.heap[g]? = some (.cells cur t fr)) (cs : Array Value) (i : Nat) : (w.setRow g cs).cell? ⟨g, i, none⟩ = cs[i]? := by
  simp only [World.cell?, World.setRow, Array.getElem?_modify, if_true, h, Option.map_some]
  simp

theorem Try.info21 : (Try.prog.info? 21).map (fun i => (i.zero, i.size, i.bytes)) = some (some (.int .i32 0), 1, 4) := by kernel_rfl

theorem makei32 (n : Nat) (hn : n ≤ 1048576) (w : World) :
    (Instr.makeSlice 22 (.int .i64 n) (.int .i64 n)).run Try.prog w = .ok (.slice (some ⟨w.heap.size, 0, none⟩) n n) (w.alloc (.cells (madeCells #[.int .i32 0] n) 21)) := by
  obtain ⟨i0, hi, hz0, hz1, hz2⟩ := info_parts Try.info21
  have h := run_make (P := Try.prog) w 22 21 i0 _ Try.underlying22 hi hz0 .i64 .i64 (n : Int) (n : Int) (by omega) (by omega) (by rw [hz2]; omega) (by omega)
  rw [hz1] at h
  simpa [Value.cells] using h

set_option maxHeartbeats 400000 in
theorem clone5 {a : Option Addr} {n : Nat} (c : Nat) {z : Nat → Int} (w : World) (hn : n ≤ 1048576) (h0 : a = none → n = 0) (h : IRow .i32 w a n z) :
    Calls Try.prog 5 #[.slice a n c] w (CloneRet .i32 w n z) := by
  have hsz : (Try.prog.info? 21).map (·.size) = some 1 := by kernel_rfl
  have hnil := fun (w : World) (a : Option Addr) (n c : Nat) => Lib.run_eql_slice_nil (P := Try.prog) w 22 21 a n c 0 0 Try.underlying22
  have hmk := makei32 n hn
  rcases a with _ | x
  · have e := h0 rfl
    subst e
    clear hmk
    go_enter Try.func5, Try.ntmps5
    go_wp2
    go_ret
    exact ⟨none, 0, rfl, Or.inl rfl, fun b off e => (by cases e), Below.refl _ _⟩
  rcases h with rfl | ⟨b, off, hx, hb, hc⟩
  · have hmk0 : ∀ w : World, (Instr.makeSlice 22 (.int .i64 0) (.int .i64 0)).run Try.prog w = .ok (.slice (some ⟨w.heap.size, 0, none⟩) 0 0) (w.alloc (.cells (madeCells #[.int .i32 0] 0) 21)) := hmk
    have hcp := fun (w : World) (ty : TypeId) (d : Option Addr) => run_copy_none (P := Try.prog) w 22 22 ty 21 d (some x) 0 0 0 c Try.underlying22 hsz rfl
    clear hmk
    go_enter Try.func5, Try.ntmps5
    go_wp2
    go_ret
    exact ⟨_, 0, rfl, Or.inl rfl, fun b off e => by cases e; exact Nat.le_refl _, (Below.refl _ _).alloc (Nat.le_refl _) _⟩
  · injection hx with hx
    subst hx
    have hlen : ((List.range n).map fun i => Value.int .i32 (z i)).length = n := by simp
    have hg : (w.alloc (.cells (madeCells #[.int .i32 0] n) 21)).heap[w.heap.size]? = some (.cells (madeCells #[.int .i32 0] n) 21 (0, 0)) := by
      show (w.heap.push _)[w.heap.size]? = _
      simp
    have hcp := fun (ty : TypeId) => run_copy_row (P := Try.prog) (w.alloc (.cells (madeCells #[.int .i32 0] n) 21)) 22 22 ty 21 w.heap.size 0 n n ⟨b, off, none⟩ n c (madeCells #[.int .i32 0] n) 21
      ((List.range n).map fun i => Value.int .i32 (z i)) Try.underlying22 hsz hg (by simp) (fun j v hj => by
        have hjn : j < n := by
          have := (List.getElem?_eq_some_iff.1 hj).1
          simpa using this
        simp [hjn] at hj
        subst hj
        have hadd : (⟨b, off, none⟩ : Addr).add j = ⟨b, off + j, none⟩ := by unfold Addr.add; split <;> simp_all
        rw [hadd, World.cell?_alloc_lt _ _ _ (by exact hb)]
        exact hc j hjn) (by simp [size_madeCells]) (fun v hv => by
        simp at hv
        obtain ⟨i, _, rfl⟩ := hv
        rfl)
    obtain ⟨w2, hw2⟩ : ∃ w2, w2 = (w.alloc (.cells (madeCells #[.int .i32 0] n) 21)).setRow w.heap.size (List.take 0 (madeCells #[.int .i32 0] n).toList ++ ((List.range n).map fun i => Value.int .i32 (z i)) ++ List.drop (0 + ((List.range n).map fun i => Value.int .i32 (z i)).length) (madeCells #[.int .i32 0] n).toList).toArray := ⟨_, rfl⟩
    rw [← hw2, hlen] at hcp
    have hR : IRow .i32 w2 (some ⟨w.heap.size, 0, none⟩) n z := by
      refine Or.inr ⟨w.heap.size, 0, rfl, ?_, fun i hi => ?_⟩
      · rw [hw2]; simp [World.setRow]
      · rw [hw2, Nat.zero_add, setRow_cell hg]
        simp only [List.take_zero, List.nil_append, List.getElem?_toArray]
        rw [List.getElem?_append_left (by simpa using hi)]
        simp [hi]
    have hB : Below w.heap.size w w2 := by
      rw [hw2]
      exact below_setRow ((Below.refl _ _).alloc (Nat.le_refl _) _) (Nat.le_refl _) _
    have H : Hid _ := And.intro hR hB
    clear hw2 hg hlen hR hB hc
    go_enter Try.func5, Try.ntmps5
    go_wp2
    go_ret
    exact ⟨_, n, rfl, H.out.1, fun b off e => by cases e; exact Nat.le_refl _, H.out.2⟩

theorem Try.info58 : (Try.prog.info? 58).map (fun i => (i.zero, i.size, i.bytes)) = some (some (.int .u64 0), 1, 8) := by kernel_rfl

theorem makeu64 (n : Nat) (hn : n ≤ 1048576) (w : World) :
    (Instr.makeSlice 23 (.int .i64 n) (.int .i64 n)).run Try.prog w = .ok (.slice (some ⟨w.heap.size, 0, none⟩) n n) (w.alloc (.cells (madeCells #[.int .u64 0] n) 58)) := by
  obtain ⟨i0, hi, hz0, hz1, hz2⟩ := info_parts Try.info58
  have h := run_make (P := Try.prog) w 23 58 i0 _ Try.underlying23 hi hz0 .i64 .i64 (n : Int) (n : Int) (by omega) (by omega) (by rw [hz2]; omega) (by omega)
  rw [hz1] at h
  simpa [Value.cells] using h

set_option maxHeartbeats 400000 in
theorem clone6 {a : Option Addr} {n : Nat} (c : Nat) {z : Nat → Int} (w : World) (hn : n ≤ 1048576) (h0 : a = none → n = 0) (h : IRow .u64 w a n z) :
    Calls Try.prog 6 #[.slice a n c] w (CloneRet .u64 w n z) := by
  have hsz : (Try.prog.info? 58).map (·.size) = some 1 := by kernel_rfl
  have hnil := fun (w : World) (a : Option Addr) (n c : Nat) => Lib.run_eql_slice_nil (P := Try.prog) w 23 58 a n c 0 0 Try.underlying23
  have hmk := makeu64 n hn
  rcases a with _ | x
  · have e := h0 rfl
    subst e
    clear hmk
    go_enter Try.func6, Try.ntmps6
    go_wp2
    go_ret
    exact ⟨none, 0, rfl, Or.inl rfl, fun b off e => (by cases e), Below.refl _ _⟩
  rcases h with rfl | ⟨b, off, hx, hb, hc⟩
  · have hmk0 : ∀ w : World, (Instr.makeSlice 23 (.int .i64 0) (.int .i64 0)).run Try.prog w = .ok (.slice (some ⟨w.heap.size, 0, none⟩) 0 0) (w.alloc (.cells (madeCells #[.int .u64 0] 0) 58)) := hmk
    have hcp := fun (w : World) (ty : TypeId) (d : Option Addr) => run_copy_none (P := Try.prog) w 23 23 ty 58 d (some x) 0 0 0 c Try.underlying23 hsz rfl
    clear hmk
    go_enter Try.func6, Try.ntmps6
    go_wp2
    go_ret
    exact ⟨_, 0, rfl, Or.inl rfl, fun b off e => by cases e; exact Nat.le_refl _, (Below.refl _ _).alloc (Nat.le_refl _) _⟩
  · injection hx with hx
    subst hx
    have hlen : ((List.range n).map fun i => Value.int .u64 (z i)).length = n := by simp
    have hg : (w.alloc (.cells (madeCells #[.int .u64 0] n) 58)).heap[w.heap.size]? = some (.cells (madeCells #[.int .u64 0] n) 58 (0, 0)) := by
      show (w.heap.push _)[w.heap.size]? = _
      simp
    have hcp := fun (ty : TypeId) => run_copy_row (P := Try.prog) (w.alloc (.cells (madeCells #[.int .u64 0] n) 58)) 23 23 ty 58 w.heap.size 0 n n ⟨b, off, none⟩ n c (madeCells #[.int .u64 0] n) 58
      ((List.range n).map fun i => Value.int .u64 (z i)) Try.underlying23 hsz hg (by simp) (fun j v hj => by
        have hjn : j < n := by
          have := (List.getElem?_eq_some_iff.1 hj).1
          simpa using this
        simp [hjn] at hj
        subst hj
        have hadd : (⟨b, off, none⟩ : Addr).add j = ⟨b, off + j, none⟩ := by unfold Addr.add; split <;> simp_all
        rw [hadd, World.cell?_alloc_lt _ _ _ (by exact hb)]
        exact hc j hjn) (by simp [size_madeCells]) (fun v hv => by
        simp at hv
        obtain ⟨i, _, rfl⟩ := hv
        rfl)
    obtain ⟨w2, hw2⟩ : ∃ w2, w2 = (w.alloc (.cells (madeCells #[.int .u64 0] n) 58)).setRow w.heap.size (List.take 0 (madeCells #[.int .u64 0] n).toList ++ ((List.range n).map fun i => Value.int .u64 (z i)) ++ List.drop (0 + ((List.range n).map fun i => Value.int .u64 (z i)).length) (madeCells #[.int .u64 0] n).toList).toArray := ⟨_, rfl⟩
    rw [← hw2, hlen] at hcp
    have hR : IRow .u64 w2 (some ⟨w.heap.size, 0, none⟩) n z := by
      refine Or.inr ⟨w.heap.size, 0, rfl, ?_, fun i hi => ?_⟩
      · rw [hw2]; simp [World.setRow]
      · rw [hw2, Nat.zero_add, setRow_cell hg]
        simp only [List.take_zero, List.nil_append, List.getElem?_toArray]
        rw [List.getElem?_append_left (by simpa using hi)]
        simp [hi]
    have hB : Below w.heap.size w w2 := by
      rw [hw2]
      exact below_setRow ((Below.refl _ _).alloc (Nat.le_refl _) _) (Nat.le_refl _) _
    have H : Hid _ := And.intro hR hB
    clear hw2 hg hlen hR hB hc
    go_enter Try.func6, Try.ntmps6
    go_wp2
    go_ret
    exact ⟨_, n, rfl, H.out.1, fun b off e => by cases e; exact Nat.le_refl _, H.out.2⟩

end Go.Proofs.Qxb6613821a.Draws
