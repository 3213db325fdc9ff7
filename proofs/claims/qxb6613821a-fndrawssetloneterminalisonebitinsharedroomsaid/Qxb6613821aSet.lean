/-
  Seat b6613821a: ZZnewDraws, draws.set, zzOneBit: walked.
-/
import Derived.Test.Qxb6613821aClone
namespace Go.Proofs.Qxb6613821a.Draws
open Go.RowKit

/-- The draws in block D: its members, its one room of a lone piece (block S, wd words). -/
structure Dr (w : World) (D S wd : Nat) (am : Option Addr) (n cm : Nat) : Prop where
  hD : D < w.heap.size
  hS : S < w.heap.size
  ne : D ≠ S
  mem : w.cell? ⟨D, 5, none⟩ = some (.slice am n cm)
  sing : w.cell? ⟨D, 12, none⟩ = some (.slice (some ⟨S, 0, none⟩) wd wd)
  room : ∀ i, i < wd → (w.cell? ⟨S, i, none⟩).isSome = true
  free : ∀ i, i < wd → w.frozen? ⟨S, i, none⟩ = false

/-- The i-th word of the set of r alone. -/
def bit (r i : Nat) : Int := if i = r / 64 then IntKind.u64.wrap (2 ^ (r % 64)) else 0

set_option maxHeartbeats 400000 in
theorem new_any (wd : Nat) (am : Option Addr) (n cm : Nat) (ap : Option Addr) (np cp : Nat) (w : World) (h1 : wd ≤ 65536) :
    Calls Try.prog 7 #[.int .i64 wd, .slice am n cm, .slice ap np cp] w fun e w' => ∃ D S, e = .returned (.pointer (some ⟨D, 0, none⟩)) ∧ Dr w' D S wd am n cm ∧ w.heap.size ≤ S ∧ Below w.heap.size w w' := by
  have hmk := makeu64 wd (by omega)
  go_enter Try.func7, Try.ntmps7
  go_wp2
  go_ret
  refine ⟨w.heap.size + 1 + 1, w.heap.size + 1, rfl, ⟨by simp, by simp, by omega, ?_, ?_, fun i hi => ?_, fun i hi => ?_⟩, by omega, (((Below.refl _ _).alloc (Nat.le_refl _) _).alloc (by simp) _).alloc (by simp; omega) _⟩
  · rw [World.cell?_alloc_at _ _ _ _ (by simp)]; rfl
  · rw [World.cell?_alloc_at _ _ _ _ (by simp)]; rfl
  · rw [World.cell?_alloc_past _ _ _ (by simp), World.cell?_alloc_at _ _ _ _ (by simp)]
    simp [size_madeCells, hi]
  · rw [World.frozen?_alloc_past _ _ _ (by simp), World.frozen?_alloc_at _ _ _ _ (by simp)]

theorem grown_set {w w' : World} {B : Nat} (h : w.grownBy w' (some B)) (o : Nat) (v : Value) : w.grownBy (w'.setCell ⟨B, o, none⟩ v) (some B) :=
  ⟨h.os, h.tape, h.output, by have := h.size; simpa [World.setCell] using this, fun k hk hne => (Below.heap_setCell _ _ _ _ (fun e => hne (by rw [e]))).trans (h.block k hk hne)⟩

theorem grown_cells {w : World} {B : Nat} : ∀ (vs : List Value) (o : Nat) {w' : World}, w.grownBy w' (some B) → w.grownBy (w'.setCells B o vs) (some B)
  | [], _, _, h => h
  | v :: vs, o, _, h => grown_cells vs (o + 1) (grown_set h o v)

theorem grown_draws {w w' : World} {row : Option Nat} (h : w.grownBy w' row) (q : Nat) : w.grownBy (w'.drewN q) row := ⟨h.os, h.tape, h.output, h.size, h.block⟩

set_option maxHeartbeats 400000 in
theorem set_any {w : World} {D S wd : Nat} {am : Option Addr} {n cm : Nat} {z : Nat → Int} (h : Dr w D S wd am n cm) (hm : IRow .i32 w am n z) (r : Nat) (hr : r < n) (hz : z r < 0) (hz1 : -2147483648 ≤ z r) (hw : r < 64 * wd) (hn : n ≤ 1048576) (h1 : wd ≤ 65536) :
    Calls Try.prog 10 #[.pointer (some ⟨D, 0, none⟩), .int .i32 r] w fun e w' => e = .returned (.slice (some ⟨S, 0, none⟩) wd wd) ∧ w.grownBy w' (some S) ∧ Dr w' D S wd am n cm ∧ IRow .u64 w' (some ⟨S, 0, none⟩) wd (bit r) := by
  have c5 := h.mem
  have c12 := h.sing
  rcases hm with rfl | ⟨b, off, rfl, hb, hc⟩
  · omega
  have cr := hc r hr
  have hcl := fun (ty : TypeId) => Lib.run_clear_slice (P := Try.prog) w 23 58 ty (.int .u64 0) Try.underlying23 Try.zeroValue58 rfl rfl S 0 wd wd (by omega) (fun j hj => by rw [Nat.zero_add]; exact h.room j hj) (fun j hj => by rw [Nat.zero_add]; exact h.free j hj)
  obtain ⟨w2, hw2⟩ : ∃ w2, w2 = w.setCells S 0 (List.replicate wd (.int .u64 0)) := ⟨_, rfl⟩
  rw [← hw2] at hcl
  have g12 : w2.cell? ⟨D, 12, none⟩ = some (.slice (some ⟨S, 0, none⟩) wd wd) := by
    rw [hw2, World.cell?_setCells_out _ _ _ _ _ (fun e => absurd e h.ne)]; exact c12
  have gS : ∀ i, i < wd → w2.cell? ⟨S, i, none⟩ = some (.int .u64 0) := fun i hi => by
    have := World.cell?_setCells_in S (List.replicate wd (.int .u64 0)) 0 w (fun j hj => by rw [Nat.zero_add]; exact h.room j (by simpa using hj)) i (by simpa using hi)
    rw [Nat.zero_add] at this
    rw [hw2, this]
    simp
  have fS : ∀ i, i < wd → w2.frozen? ⟨S, i, none⟩ = false := fun i hi => by rw [hw2, World.frozen?_setCells]; exact h.free i hi
  have hg : w.grownBy w2 (some S) := by rw [hw2]; exact grown_cells _ _ (World.grownBy.refl _ _)
  have gq := gS (r / 64) (by omega)
  have fq := fS (r / 64) (by omega)
  have k12 : ∀ v, (w2.setCell ⟨S, r / 64, none⟩ v).cell? ⟨D, 12, none⟩ = some (.slice (some ⟨S, 0, none⟩) wd wd) := fun v => by
    rw [World.cell?_setCell_other _ _ _ _ (by intro e; injection e with e _; exact h.ne e.symm)]; exact g12
  have HR : Hid (∀ i, i < wd → (w2.setCell ⟨S, r / 64, none⟩ (.int .u64 (IntKind.u64.wrap (2 ^ (r % 64))))).cell? ⟨S, i, none⟩ = some (.int .u64 (bit r i))) := fun i hi => by
    by_cases e : i = r / 64
    · subst e
      rw [World.cell?_setCell_same _ _ _ gq]
      simp [bit]
    · rw [World.cell?_setCell_other _ _ _ _ (by intro e2; injection e2 with _ e2; exact e e2.symm), gS i hi]
      simp [bit, e]
  have HG : Hid (w.grownBy ((w2.setCell ⟨S, r / 64, none⟩ (.int .u64 (IntKind.u64.wrap (2 ^ (r % 64))))).drewN 1) (some S)) := grown_draws (grown_set hg _ _) 1
  have HF : Hid (∀ i, i < wd → (w2.setCell ⟨S, r / 64, none⟩ (.int .u64 (IntKind.u64.wrap (2 ^ (r % 64))))).frozen? ⟨S, i, none⟩ = false) := fun i hi => by rw [World.frozen?_setCell]; exact fS i hi
  clear hw2 gS fS hc
  go_enter Try.func10, Try.ntmps10
  go_wp2
  go_region
  go_wp2
  go_ret
  refine ⟨rfl, HG.out, ⟨Nat.lt_of_lt_of_le h.hD HG.out.size, Nat.lt_of_lt_of_le h.hS HG.out.size, h.ne, (World.cell?_of_block (a := ⟨D, 5, none⟩) (HG.out.block D h.hD (fun e => h.ne (by injection e)))).trans h.mem, k12 _, fun i hi => ?_, HF.out⟩, Or.inr ⟨S, 0, rfl, Nat.lt_of_lt_of_le h.hS HG.out.size, fun i hi => ?_⟩⟩
  · have := HR.out i hi
    show ((w2.setCell _ _).cell? _).isSome = true
    rw [this]; rfl
  · rw [Nat.zero_add]; exact HR.out i hi

theorem ZZset_any {w : World} {D S wd : Nat} {am : Option Addr} {n cm : Nat} {z : Nat → Int} (h : Dr w D S wd am n cm) (hm : IRow .i32 w am n z) (r : Nat) (hr : r < n) (hz : z r < 0) (hz1 : -2147483648 ≤ z r) (hw : r < 64 * wd) (hn : n ≤ 1048576) (h1 : wd ≤ 65536) :
    Calls Try.prog 8 #[.pointer (some ⟨D, 0, none⟩), .int .i32 r] w fun e w' => e = .returned (.slice (some ⟨S, 0, none⟩) wd wd) ∧ w.grownBy w' (some S) ∧ Dr w' D S wd am n cm ∧ IRow .u64 w' (some ⟨S, 0, none⟩) wd (bit r) := by
  have hs := set_any h hm r hr hz hz1 hw hn h1
  go_enter Try.func8, Try.ntmps8
  go_wp2_with fail
  refine hs.mono ?_
  rintro e w' ⟨rfl, hg, hD, hI⟩
  clear hs
  go_wp2
  go_ret
  exact ⟨rfl, hg, hD, hI⟩
end Go.Proofs.Qxb6613821a.Draws
