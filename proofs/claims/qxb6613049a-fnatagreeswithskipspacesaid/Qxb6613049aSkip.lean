/-
  Seat b6613049a: skipSpace: walked.
-/
import Derived.Test.Qxb6613049aReader
import Derived.Deep.LoopGhost
namespace Go.Proofs.Qxb6613049a.Reader
open Go.RowKit

/-- All bytes from p up to k are white space. -/
def AllSp (s : ByteArray) (p k : Nat) : Prop := ∀ i, p ≤ i → i < k → ∀ h : i < s.size, sp (s[i]'h) = true

/-- k is where white space from p on ends. -/
structure Stop (s : ByteArray) (p k : Nat) : Prop where
  lo : p ≤ k
  hi : k ≤ s.size
  all : AllSp s p k
  fin : ∀ h : k < s.size, sp (s[k]'h) = false

theorem Stop.unique {s : ByteArray} {p k l : Nat} (h : Stop s p k) (g : Stop s p l) : k = l := by
  rcases Nat.lt_trichotomy k l with e | e | e
  · have hk : k < s.size := by have := g.hi; omega
    have h1 := g.all k h.lo e hk
    rw [h.fin hk] at h1
    cases h1
  · exact e
  · have hl : l < s.size := by have := h.hi; omega
    have h1 := h.all l g.lo e hl
    rw [g.fin hl] at h1
    cases h1

theorem AllSp.snoc {s : ByteArray} {p k : Nat} (h : AllSp s p k) (hk : k < s.size) (hs : sp (s[k]'hk) = true) : AllSp s p (k + 1) := fun i h1 h2 h3 => by
  by_cases e : i = k
  · subst e; exact hs
  · exact h i h1 (by omega) h3

theorem Rd.grown {w w' : World} {B : Nat} {s : ByteArray} {p r : Int} {row : Option Nat} (h : Rd w B s p r) (hg : w.grownBy w' row) (hr : some B ≠ row) : Rd w' B s p r := by
  have hb := hg.block B h.hi hr
  exact ⟨Nat.lt_of_lt_of_le h.hi hg.size, (World.cell?_of_block (a := ⟨B, 0, none⟩) hb).trans h.s, (World.cell?_of_block (a := ⟨B, 1, none⟩) hb).trans h.p, (World.cell?_of_block (a := ⟨B, 2, none⟩) hb).trans h.r,
    (World.frozen?_of_block (a := ⟨B, 1, none⟩) hb).trans h.fp, (World.frozen?_of_block (a := ⟨B, 2, none⟩) hb).trans h.fr⟩

theorem Rd.drewN {w : World} {B : Nat} {s : ByteArray} {p r : Int} (h : Rd w B s p r) (q : Nat) : Rd (w.drewN q) B s p r := ⟨h.hi, h.s, h.p, h.r, h.fp, h.fr⟩

theorem Rd.setReads {w : World} {B : Nat} {s : ByteArray} {p r : Int} (h : Rd w B s p r) (r' : Int) : Rd (w.setCell ⟨B, 2, none⟩ (.int .i64 r')) B s p r' := by
  refine ⟨by have := h.hi; simpa [World.setCell] using this, ?_, ?_, World.cell?_setCell_same _ _ _ h.r, ?_, ?_⟩
  · rw [World.cell?_setCell_other _ _ _ _ (by simp)]; exact h.s
  · rw [World.cell?_setCell_other _ _ _ _ (by simp)]; exact h.p
  · rw [World.frozen?_setCell]; exact h.fp
  · rw [World.frozen?_setCell]; exact h.fr

theorem Rd.setPos {w : World} {B : Nat} {s : ByteArray} {p r : Int} (h : Rd w B s p r) (p' : Int) : Rd (w.setCell ⟨B, 1, none⟩ (.int .i64 p')) B s p' r := by
  refine ⟨by have := h.hi; simpa [World.setCell] using this, ?_, World.cell?_setCell_same _ _ _ h.p, ?_, ?_, ?_⟩
  · rw [World.cell?_setCell_other _ _ _ _ (by simp)]; exact h.s
  · rw [World.cell?_setCell_other _ _ _ _ (by simp)]; exact h.r
  · rw [World.frozen?_setCell]; exact h.fp
  · rw [World.frozen?_setCell]; exact h.fr

theorem grown_set {w w' : World} {B : Nat} (h : w.grownBy w' (some B)) (o : Nat) (v : Value) : w.grownBy (w'.setCell ⟨B, o, none⟩ v) (some B) :=
  ⟨h.os, h.tape, h.output, by have := h.size; simpa [World.setCell] using this, fun k hk hne => (Below.heap_setCell _ _ _ _ (fun e => hne (by rw [e]))).trans (h.block k hk hne)⟩

theorem grown_draws {w w' : World} {row : Option Nat} (h : w.grownBy w' row) (q : Nat) : w.grownBy (w'.drewN q) row := ⟨h.os, h.tape, h.output, h.size, h.block⟩

/-- What skipSpace leaves. -/
def SkipRet (w : World) (B : Nat) (s : ByteArray) (p : Nat) (r : Int) (e : Ending) (w' : World) : Prop :=
  ∃ (k : Nat) (rr : Int), Stop s p k ∧ e = .returned (.bool (decide (p < k))) ∧ Rd w' B s k rr ∧ 0 ≤ rr ∧ rr ≤ r + 1048577 ∧ w.grownBy w' (some B)

set_option maxHeartbeats 1000000 in
theorem skipSpace_any {w : World} {B : Nat} {s : ByteArray} {p : Nat} {r : Int} (h : Rd w B s p r) (hp : p ≤ s.size) (hs : s.size ≤ 1048576) (r0 : 0 ≤ r) (r1 : r ≤ 1073741824) :
    Calls Try.prog 19 #[.pointer (some ⟨B, 0, none⟩)] w (SkipRet w B s p r) := by
  have hc1 := h.p
  go_enter Try.func19, Try.ntmps19
  go_wp2
  go_loopg [] s.size (fun g wr => ∃ (k : Nat) (rr : Int), p ≤ k ∧ k ≤ s.size ∧ s.size - k ≤ g ∧ 0 ≤ rr ∧ rr ≤ r + k ∧ Rd wr B s k rr ∧ w.grownBy wr (some B) ∧ AllSp s p k)
  case atStart => exact ⟨p, r, by omega, hp, by omega, r0, by omega, h, World.grownBy.refl _ _, fun i h1 h2 => by omega⟩
  case round =>
    obtain ⟨k, rr, hpk, hks, hg, hr0, hr1, hR, hgr, hA⟩ := hrel
    clear hc1 h
    have hR' := hR
    obtain ⟨hi, c0, c1, c2, f1, f2⟩ := hR'
    by_cases hlt : k < s.size
    · have b0 : (k : Int) < (s.size : Int) := by omega
      have HB : Hid (Calls Try.prog 21 #[.pointer (some ⟨B, 0, none⟩), .int .i64 k] wr.drew fun e w' => e = .returned (.int .u8 (s[k]'hlt).toNat) ∧ w' = (wr.setCell ⟨B, 2, none⟩ (.int .i64 (rr + 1))).drew) :=
        (byteAt_any (hR.drewN 1) k hlt hr0 (by omega)).mono fun e w' ⟨he, hw⟩ => ⟨he, hw⟩
      cases hsp : sp (s[k]'hlt)
      · have HX : Hid (∀ W : World, Calls Try.prog 22 #[.int .u8 (s[k]'hlt).toNat] W fun e w' => e = .returned (.bool false) ∧ w' = W) := fun W => by rw [← hsp]; exact isSpace_any _ W
        have HS : Hid (Stop s p k) := ⟨hpk, hks, hA, fun _ => hsp⟩
        generalize s[k]'hlt = x at HB HX
        clear hsp
        go_wp2
        go_region_held (fun w' => w'.cell? ⟨B, 0, none⟩ = some (.string s) ∧ w'.cell? ⟨B, 1, none⟩ = some (.int .i64 k)) (simp [*, World.cell?_setCell_other]) ((first | (go_at_call 21; refine HB.out.mono ?_; rintro e w' ⟨rfl, rfl⟩) | (go_at_call 22; refine (HX.out _).mono ?_; rintro e w' ⟨rfl, rfl⟩)))
        have hR1 := hR.setReads (rr + 1)
        have k1 := hR1.p
        go_wp2
        go_ret
        exact ⟨k, rr + 1, HS.out, rfl, hR1.drewN 1, by omega, by omega, grown_draws (grown_set hgr 2 _) 1⟩
      · have HX : Hid (∀ W : World, Calls Try.prog 22 #[.int .u8 (s[k]'hlt).toNat] W fun e w' => e = .returned (.bool true) ∧ w' = W) := fun W => by rw [← hsp]; exact isSpace_any _ W
        have HS : Hid (AllSp s p (k + 1)) := hA.snoc hlt hsp
        generalize s[k]'hlt = x at HB HX
        clear hsp
        go_wp2
        go_region_held (fun w' => w'.cell? ⟨B, 0, none⟩ = some (.string s) ∧ w'.cell? ⟨B, 1, none⟩ = some (.int .i64 k)) (simp [*, World.cell?_setCell_other]) ((first | (go_at_call 21; refine HB.out.mono ?_; rintro e w' ⟨rfl, rfl⟩) | (go_at_call 22; refine (HX.out _).mono ?_; rintro e w' ⟨rfl, rfl⟩)))
        have hR1 := hR.setReads (rr + 1)
        have k1 := hR1.p
        have k2 := hR1.fp
        have hR2 := (hR1.setPos ((k : Int) + 1)).drewN 1
        have hgr2 := grown_draws (grown_set (grown_set hgr 2 (.int .i64 (rr + 1))) 1 (.int .i64 ((k : Int) + 1))) 1
        have HR : Hid _ := And.intro hR2 hgr2
        clear hR2 hgr2
        go_wp2
        go_roundg (s.size - (k + 1))
        case measure => omega
        case rel => exact ⟨k + 1, rr + 1, by omega, by omega, by omega, by omega, by omega, HR.out.1, HR.out.2, HS.out⟩
    · have d : decide ((k : Int) < (s.size : Int)) = false := decide_eq_false (by omega)
      go_wp2
      go_quiet (fail)
      go_wp2
      go_ret
      exact ⟨k, rr, ⟨hpk, hks, hA, fun h => absurd h hlt⟩, rfl, hR.drewN nq, hr0, by omega, grown_draws hgr nq⟩
end Go.Proofs.Qxb6613049a.Reader
