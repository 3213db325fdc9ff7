/-
  Seat b6612962a: strings.Compare, compareNames: walked; the order that they give.
-/
import Derived.Test.Qxb6612962aLaid
import Derived.Test.Qxb6612962aSortedCopy
import Derived.Lib.Bytealg
import Derived.Lib.Walk
namespace Go.Proofs.Qxb6612962a.Sets
open Go.RowKit Go.Proofs.Qxb6612962a.Plain Go.Sort

/-- An attribute's two cells: its name; no value. -/
def encA (x : ByteArray) : List Value := [.string x, .nilIface]
/-- What compareNames gives. -/
def cf (x y : ByteArray) : Int := Lib.compareBytes x.data.toList y.data.toList

theorem cb_lt : ∀ x y : List UInt8, decide (Lib.compareBytes x y < 0) = Op.bytesLess x y
  | [], [] => by simp [Lib.compareBytes, Op.bytesLess]
  | [], _ :: _ => by simp [Lib.compareBytes, Op.bytesLess]
  | _ :: _, [] => by simp [Lib.compareBytes, Op.bytesLess]
  | a :: x, b :: y => by
    have ih := cb_lt x y
    unfold Lib.compareBytes Op.bytesLess
    by_cases h1 : a < b
    · simp [h1]
    · by_cases h2 : b < a
      · have : a ≠ b := fun e => by subst e; exact h1 h2
        simp [h1, h2, this]
      · have : a = b := by rw [UInt8.lt_iff_toNat_lt] at h1 h2; exact UInt8.toNat_inj.1 (by omega)
        subst this
        simp only [h1, if_false, decide_false, Bool.false_or, beq_self_eq_true, Bool.true_and]
        exact ih

theorem ltOf_cf (x y : ByteArray) : ltOf cf x y = lt x y := by
  unfold ltOf cf lt
  rw [cb_lt, Lib.toList_data, Lib.toList_data]

theorem swo : SWO (ltOf cf) where
  irrefl x := by rw [ltOf_cf]; exact lt_irrefl x
  trans x y z h1 h2 := by rw [ltOf_cf] at *; exact lt_trans h1 h2
  ntrans x y z h1 h2 := by rw [ltOf_cf] at *; exact le_trans h2 h1

set_option maxHeartbeats 1000000 in
theorem compareString_any (a b : ByteArray) (w : World) :
    Calls Try.prog 45 #[.string a, .string b] w fun e w' => e = .returned (.int .i64 (cf a b)) ∧ w' = w := by
  unfold cf
  go_enter Try.func45, Try.ntmps45
  go_wp2
  rw [run_callFunc_extern Try.func49 (by kernel_rfl) (by kernel_rfl) (by kernel_rfl) (e := Extern.BytealgCompare.compare) (by kernel_rfl), Lib.run_compareString]
  simp only [Result.andThen]
  rw [Oper.upon_value]
  go_wp2
  go_ret
  exact ⟨rfl, rfl⟩

theorem compare_any (a b : ByteArray) (w : World) :
    Calls Try.prog 36 #[.string a, .string b] w fun e w' => e = .returned (.int .i64 (cf a b)) ∧ w' = w := by
  have hcon := compareString_any a b
  generalize cf a b = r at hcon ⊢
  go_enter Try.func36, Try.ntmps36
  go_wp2_with (go_at_call 45; refine (hcon _).mono ?_; rintro e w' ⟨rfl, rfl⟩)
  go_ret
  exact ⟨rfl, rfl⟩

theorem compareNames_any (x y : ByteArray) (W : World) : Calls Try.prog 42 #[.agg #[.string x, .nilIface], .agg #[.string y, .nilIface]] W fun e w' => e = .returned (.int .i64 (cf x y)) ∧ ∃ q os', w' = grow (W.drewN q) os' := by
  have hcon := compare_any x y
  generalize cf x y = r at hcon ⊢
  go_enter Try.func42, Try.ntmps42
  go_wp2_with (go_at_call 36; refine (hcon _).mono ?_; rintro e w' ⟨rfl, rfl⟩)
  go_ret
  exact ⟨rfl, 0, _, by rw [alloc_eq_grow, alloc_eq_grow, grow_grow]; rfl⟩

theorem cmpLays (blk off size : Nat) (w : World) : CmpLays Try.prog 42 #[] encA 2 cf blk off size w :=
  fun _ _ _ _ x y => compareNames_any x y _

/-- slices.SortFunc(attrs, compareNames): the row holds its names in byte order. -/
theorem sortFunc_any (blk off cap : Nat) (d : Array ByteArray) (w : World) (hH : HoldsK encA 2 w blk off d) (hblk : blk < w.heap.size) (hsz : d.size < 4611686018427387904) :
    Calls Try.prog 41 #[.slice (some ⟨blk, off, none⟩) d.size cap, .func (.func 42) #[] #[]] w fun e w' => e = .returned (.tuple #[]) ∧ ∃ d' n os, PermIn 0 d.size d d' ∧ SortedIn (ltOf cf) 0 d.size d' ∧ w' = sortWorldK encA 2 w blk off n d' os := by
  have eg : ∀ args w, (callFunc 42 args).run Try.prog w = .ok (.enter 42 args) w := enters_of Try.func42 (by kernel_rfl) rfl
  exact AnyQ.slices_SortFunc sortA 2 Try.isAgg36 Try.sizeOf36 encA (fun _ => rfl) (fun x v hv => by simp [encA] at hv; rcases hv with rfl | rfl <;> rfl) cf swo 42 #[] blk off cap d w eg (cmpLays blk off d.size w) hH hblk hsz
end Go.Proofs.Qxb6612962a.Sets
