/-
  Seat b6613049a: the challenge reader's small steps: walked.
-/
import Derived.Test.Qxb6613049aProg
import Derived.WalkKit
import Derived.Below
import Derived.Deep.QuietTactic
import Derived.BigQuiet
import Derived.RegionTactic
import Derived.Deep.RegionWith
import Derived.Deep.RegionHeld
import Derived.WalkLawsBesides
namespace Go.Proofs.Qxb6613049a.Reader
open Go.RowKit

/-- A reader in block B: its text, its position, its reads. -/
structure Rd (w : World) (B : Nat) (s : ByteArray) (p r : Int) : Prop where
  hi : B < w.heap.size
  s : w.cell? ⟨B, 0, none⟩ = some (.string s)
  p : w.cell? ⟨B, 1, none⟩ = some (.int .i64 p)
  r : w.cell? ⟨B, 2, none⟩ = some (.int .i64 r)
  fp : w.frozen? ⟨B, 1, none⟩ = false
  fr : w.frozen? ⟨B, 2, none⟩ = false

/-- SP or HTAB. -/
def sp (c : UInt8) : Bool := c == 32 || c == 9

theorem byte_eq (c d : UInt8) : ((c.toNat : Int) == (d.toNat : Int)) = (c == d) := by
  rw [Bool.eq_iff_iff, beq_iff_eq, beq_iff_eq]
  constructor
  · intro h; exact UInt8.toNat_inj.1 (by omega)
  · rintro rfl; rfl

theorem isSpace_any (c : UInt8) (w : World) : Calls Try.prog 22 #[.int .u8 c.toNat] w fun e w' => e = .returned (.bool (sp c)) ∧ w' = w := by
  have e1 := byte_eq c 32
  have e2 := byte_eq c 9
  unfold sp
  cases h1 : c == 32
  · rw [h1] at e1
    have d1 : ((c.toNat : Int) == 32) = false := e1
    cases h2 : c == 9
    · rw [h2] at e2
      have d2 : ((c.toNat : Int) == 9) = false := e2
      clear e1 e2 h1 h2
      go_enter Try.func22, Try.ntmps22
      go_wp2
      go_ret
      exact ⟨rfl, rfl⟩
    · rw [h2] at e2
      have d2 : ((c.toNat : Int) == 9) = true := e2
      clear e1 e2 h1 h2
      go_enter Try.func22, Try.ntmps22
      go_wp2
      go_ret
      exact ⟨rfl, rfl⟩
  · rw [h1] at e1
    have d1 : ((c.toNat : Int) == 32) = true := e1
    clear e1 e2 h1
    go_enter Try.func22, Try.ntmps22
    go_wp2
    go_ret
    exact ⟨rfl, rfl⟩

theorem zzIsSpace_any (c : UInt8) (w : World) : Calls Try.prog 11 #[.int .u8 c.toNat] w fun e w' => e = .returned (.bool (sp c)) ∧ w' = w := by
  have e1 := byte_eq c 32
  have e2 := byte_eq c 9
  unfold sp
  cases h1 : c == 32
  · rw [h1] at e1
    have d1 : ((c.toNat : Int) == 32) = false := e1
    cases h2 : c == 9
    · rw [h2] at e2
      have d2 : ((c.toNat : Int) == 9) = false := e2
      clear e1 e2 h1 h2
      go_enter Try.func11, Try.ntmps11
      go_wp2
      go_ret
      exact ⟨rfl, rfl⟩
    · rw [h2] at e2
      have d2 : ((c.toNat : Int) == 9) = true := e2
      clear e1 e2 h1 h2
      go_enter Try.func11, Try.ntmps11
      go_wp2
      go_ret
      exact ⟨rfl, rfl⟩
  · rw [h1] at e1
    have d1 : ((c.toNat : Int) == 32) = true := e1
    clear e1 e2 h1
    go_enter Try.func11, Try.ntmps11
    go_wp2
    go_ret
    exact ⟨rfl, rfl⟩

theorem byteAt_any {w : World} {B : Nat} {s : ByteArray} {p r : Int} (h : Rd w B s p r) (k : Nat) (hk : k < s.size) (r0 : 0 ≤ r) (r1 : r ≤ 4294967296) :
    Calls Try.prog 21 #[.pointer (some ⟨B, 0, none⟩), .int .i64 k] w fun e w' => e = .returned (.int .u8 (s[k]'hk).toNat) ∧ w' = w.setCell ⟨B, 2, none⟩ (.int .i64 (r + 1)) := by
  obtain ⟨hi, c0, c1, c2, f1, f2⟩ := h
  go_enter Try.func21, Try.ntmps21
  go_wp2
  go_ret
  exact ⟨rfl, rfl⟩

theorem at_out {w : World} {B : Nat} {s : ByteArray} {r : Int} (h : Rd w B s s.size r) (c : UInt8) :
    Calls Try.prog 18 #[.pointer (some ⟨B, 0, none⟩), .int .u8 c.toNat] w fun e w' => e = .returned (.bool false) ∧ ∃ q, w' = w.drewN q := by
  obtain ⟨hi, c0, c1, c2, f1, f2⟩ := h
  have d : decide ((s.size : Int) < (s.size : Int)) = false := decide_eq_false (by omega)
  go_enter Try.func18, Try.ntmps18
  go_wp2
  go_quiet (fail)
  go_wp2
  go_ret
  exact ⟨rfl, nq, rfl⟩

theorem at_in {w : World} {B : Nat} {s : ByteArray} {k : Nat} {r : Int} (h : Rd w B s k r) (hk : k < s.size) (r0 : 0 ≤ r) (r1 : r ≤ 4294967296) (c : UInt8) :
    Calls Try.prog 18 #[.pointer (some ⟨B, 0, none⟩), .int .u8 c.toNat] w fun e w' => e = .returned (.bool (s[k]'hk == c)) ∧ ∃ q, w' = (w.setCell ⟨B, 2, none⟩ (.int .i64 (r + 1))).drewN q := by
  have h' := h
  obtain ⟨hi, c0, c1, c2, f1, f2⟩ := h'
  have b0 : (k : Int) < (s.size : Int) := by omega
  have e1 := byte_eq (s[k]'hk) c
  have HB : Hid (Calls Try.prog 21 #[.pointer (some ⟨B, 0, none⟩), .int .i64 k] w.drew fun e w' => e = .returned (.int .u8 (s[k]'hk).toNat) ∧ w' = (w.setCell ⟨B, 2, none⟩ (.int .i64 (r + 1))).drew) := by
    have hq : Rd w.drew B s k r := ⟨h.hi, h.s, h.p, h.r, h.fp, h.fr⟩
    exact (byteAt_any hq k hk r0 r1).mono fun e w' ⟨he, hw⟩ => ⟨he, hw⟩
  generalize s[k]'hk = x at HB e1 ⊢
  go_enter Try.func18, Try.ntmps18
  go_wp2
  go_region_held (fun w' => w'.cell? ⟨B, 0, none⟩ = some (.string s) ∧ w'.cell? ⟨B, 1, none⟩ = some (.int .i64 k)) (simp [*, World.cell?_setCell_other]) ((go_at_call 21; refine HB.out.mono ?_; rintro e w' ⟨rfl, rfl⟩))
  go_wp2
  go_ret
  exact ⟨rfl, 1, rfl⟩
end Go.Proofs.Qxb6613049a.Reader
