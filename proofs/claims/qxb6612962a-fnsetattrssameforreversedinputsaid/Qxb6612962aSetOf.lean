/-
  Seat b6612962a: the attributes' row in memory; attrList.sort, setOf, NewSet, newSetOf: walked.
-/
import Derived.Test.Qxb6612962aCompare
import Derived.WalkSpells
namespace Go.Proofs.Qxb6612962a.Sets
open Go.RowKit Go.Proofs.Qxb6612962a.Plain Go.Sort

/-- A row of n attributes (a name, no value) at the head of block X. -/
structure AR (w : World) (X n : Nat) (F : Nat → ByteArray) : Prop where
  hi : X < w.heap.size
  name : ∀ i, i < n → w.cell? ⟨X, i * 2, none⟩ = some (.string (F i))
  val : ∀ i, i < n → w.cell? ⟨X, i * 2 + 1, none⟩ = some .nilIface
  free : ∀ i, i < n → w.frozen? ⟨X, i * 2, none⟩ = false ∧ w.frozen? ⟨X, i * 2 + 1, none⟩ = false

theorem AR.drewN {w : World} {X n : Nat} {F : Nat → ByteArray} (h : AR w X n F) (q : Nat) : AR (w.drewN q) X n F := ⟨h.hi, h.name, h.val, h.free⟩

theorem AR.kept {w w' : World} {X n : Nat} {F : Nat → ByteArray} (h : AR w X n F) {row : Option Nat} (hg : w.grownBy w' row) (hr : some X ≠ row) : AR w' X n F where
  hi := Nat.lt_of_lt_of_le h.hi hg.size
  name i hi := (World.cell?_of_block (w := w) (a := ⟨X, i * 2, none⟩) (hg.block X h.hi hr)).trans (h.name i hi)
  val i hi := (World.cell?_of_block (w := w) (a := ⟨X, i * 2 + 1, none⟩) (hg.block X h.hi hr)).trans (h.val i hi)
  free i hi := ⟨(World.frozen?_of_block (w := w) (a := ⟨X, i * 2, none⟩) (hg.block X h.hi hr)).trans (h.free i hi).1, (World.frozen?_of_block (w := w) (a := ⟨X, i * 2 + 1, none⟩) (hg.block X h.hi hr)).trans (h.free i hi).2⟩

/-- The first n as an array. -/
def arr (F : Nat → ByteArray) (n : Nat) : Array ByteArray := ((List.range n).map F).toArray
theorem size_arr (F : Nat → ByteArray) (n : Nat) : (arr F n).size = n := by simp [arr]
theorem get_arr (F : Nat → ByteArray) (n i : Nat) (h : i < n) : (arr F n)[i]! = F i := by simp [arr, h]

theorem AR.holds {w : World} {X n : Nat} {F : Nat → ByteArray} (h : AR w X n F) : HoldsK encA 2 w X 0 (arr F n) := by
  intro j hj
  rw [size_flatK, size_arr] at hj
  have hd : j / 2 < n := by omega
  rw [get_flatK _ _ _ _ (by rw [size_arr]; exact hj), get_arr _ _ _ hd, Nat.zero_add]
  rcases Nat.mod_two_eq_zero_or_one j with e | e
  · have ej : j = j / 2 * 2 := by omega
    have h1 := h.name _ hd
    have h2 := (h.free _ hd).1
    rw [← ej] at h1 h2
    rw [e]
    exact ⟨h1, h2⟩
  · have ej : j = j / 2 * 2 + 1 := by omega
    have h1 := h.val _ hd
    have h2 := (h.free _ hd).2
    rw [← ej] at h1 h2
    rw [e]
    exact ⟨h1, h2⟩

theorem AR.ofHolds {w : World} {X n : Nat} {d : Array ByteArray} (hX : X < w.heap.size) (hd : d.size = n) (h : HoldsK encA 2 w X 0 d) : AR w X n (fun i => d[i]!) where
  hi := hX
  name i hi := by
    have := (h.cell (i := i) (c := 0) (by omega) (by omega)).1
    simpa [encA] using this
  val i hi := by
    have := (h.cell (i := i) (c := 1) (by omega) (by omega)).1
    simpa [encA] using this
  free i hi := by
    have h0 := (h.cell (i := i) (c := 0) (by omega) (by omega)).2
    have h1 := (h.cell (i := i) (c := 1) (by omega) (by omega)).2
    exact ⟨by simpa using h0, by simpa using h1⟩

theorem grownBy_sort (w : World) (blk off m : Nat) (dk : Array ByteArray) (os : Array Obj) : w.grownBy (sortWorldK encA 2 w blk off m dk os) (some blk) where
  os := rfl
  tape := rfl
  output := rfl
  size := by simp [sortWorldK, grow, putRowK, putRow, mapBlock, Sort.ahead]
  block k hk hne := by
    have hs : k < (putRowK encA 2 (Sort.ahead w m) blk off dk).heap.size := by simpa [putRowK, putRow, mapBlock, Sort.ahead] using hk
    unfold sortWorldK
    rw [heap_grow_old _ _ hs]
    simp only [putRowK, putRow, mapBlock, Array.getElem?_modify, Sort.ahead]
    rw [if_neg (fun e => hne (by rw [e]))]

theorem cnt_list (F : Nat → ByteArray) (x : ByteArray) : ∀ n, cnt F x n = ((List.range n).map F).countP (fun y => decide (y = x))
  | 0 => rfl
  | n + 1 => by
    rw [cnt, cnt_list F x n, List.range_succ, List.map_append, List.countP_append]
    congr 1
    simp [List.countP_cons]

theorem list_arr (d : Array ByteArray) : (List.range d.size).map (fun i => d[i]!) = d.toList := by
  apply List.ext_getElem
  · simp
  · intro i h1 h2
    simp at h1
    simp [h1]

/-- What the sort leaves. -/
def SortedAR (w w' : World) (X n : Nat) (F : Nat → ByteArray) : Prop :=
  w.grownBy w' (some X) ∧ ∃ F', AR w' X n F' ∧ (∀ x, cnt F' x n = cnt F x n) ∧ Sorted F' 0 n

theorem sortFunc_AR {X n : Nat} (cap : Nat) {F : Nat → ByteArray} {w : World} (h : AR w X n F) (hn : n ≤ 1048576) :
    Calls Try.prog 41 #[.slice (some ⟨X, 0, none⟩) n cap, .func (.func 42) #[] #[]] w fun e w' => e = .returned (.tuple #[]) ∧ SortedAR w w' X n F := by
  have hs := sortFunc_any X 0 cap (arr F n) w h.holds h.hi (by rw [size_arr]; omega)
  rw [size_arr] at hs
  refine hs.mono ?_
  rintro e w' ⟨he, d', m, os, hp, hso, rfl⟩
  have hsz : d'.size = n := by rw [hp.1, size_arr]
  refine ⟨he, grownBy_sort _ _ _ _ _ _, fun i => d'[i]!, AR.ofHolds (lt_sortWorldK encA 2 w X 0 m d' os h.hi) hsz (holdsK_sortWorldK encA 2 w X 0 m (arr F n) d' os h.hi h.holds hp.1), fun x => ?_, fun p q h1 h2 h3 => ?_⟩
  · have hperm := hp.2.2
    have e1 : d'.extract 0 n = d' := by rw [← hsz]; simp
    have e2 : (arr F n).extract 0 n = arr F n := by
      have := Array.extract_size (xs := arr F n)
      rwa [size_arr] at this
    rw [e1, e2] at hperm
    have := hperm.countP_eq (fun y => decide (y = x))
    rw [cnt_list, cnt_list]
    have hl := list_arr d'
    rw [hsz] at hl
    rw [hl, this]
    simp [arr]
  · have := hso p q h1 h2 h3
    rwa [ltOf_cf] at this

theorem Sorted.snoc {F : Nat → ByteArray} {k : Nat} (h : Sorted F 0 (k + 1)) (hk : lt (F (k + 1)) (F k) = false) : Sorted F 0 (k + 1 + 1) := fun p q h1 h2 h3 => by
  by_cases e : q = k + 1
  · subst e
    by_cases e2 : p = k
    · subst e2; exact hk
    · exact le_trans (h p k h1 (by omega) (by omega)) hk
  · exact h p q h1 h2 (by omega)

theorem gtr_iff (x y : ByteArray) : (!(Op.bytesLess x.toList y.toList || x.toList == y.toList)) = lt y x := by rw [leq_iff]; simp

theorem grown_draws {w w' : World} {row : Option Nat} (h : w.grownBy w' row) (q : Nat) : w.grownBy (w'.drewN q) row := ⟨h.os, h.tape, h.output, h.size, h.block⟩

theorem grown_trans {a b c : World} {row : Option Nat} (h : a.grownBy b row) (k : b.grownBy c row) : a.grownBy c row :=
  ⟨k.os.trans h.os, k.tape.trans h.tape, k.output.trans h.output, Nat.le_trans h.size k.size, fun i hi hne => (k.block i (Nat.lt_of_lt_of_le hi h.size) hne).trans (h.block i hi hne)⟩

set_option maxHeartbeats 1000000 in
/-- attrList.sort, where no places are kept. -/
theorem sort_any {X n : Nat} (c : Nat) {F : Nat → ByteArray} {w : World} (h : AR w X n F) (hn : n ≤ 1048576) :
    Calls Try.prog 32 #[.agg #[.slice (some ⟨X, 0, none⟩) n c, .slice none 0 0]] w fun e w' => e = .returned (.tuple #[]) ∧ SortedAR w w' X n F := by
  have hnil := fun w : World => Lib.run_eql_slice_nil (P := Try.prog) w 46 3 none 0 0 0 0 Try.underlying46
  have h1 : AR (w.alloc (.cells #[.slice (some ⟨X, 0, none⟩) n c, .slice none 0 0] 48)) X n F := h.kept (World.grownBy_alloc w _ none) (by simp)
  go_enter Try.func32, Try.ntmps32
  go_wp2
  go_loopw [2] (fun v wr => ∃ (k q : Nat), 1 ≤ k ∧ (k ≤ n ∨ k = 1) ∧ v = .int .i64 k ∧ wr = (w.alloc (.cells #[.slice (some ⟨X, 0, none⟩) n c, .slice none 0 0] 48)).drewN q ∧ Sorted F 0 k) (fun v _ => n - (intOf v).toNat)
  case atStart => exact ⟨1, 0, by omega, by omega, rfl, rfl, fun p q _ _ _ => by omega⟩
  case round =>
    obtain ⟨k, q, hk1, hk, rfl, rfl, hS⟩ := hrel
    by_cases hlt : k < n
    · obtain ⟨m, rfl⟩ : ∃ m, k = m + 1 := ⟨k - 1, by omega⟩
      have c0 := h1.name m (by omega)
      have c1 := h1.name (m + 1) hlt
      have e0 := h.name m (by omega)
      have e1 := h.name (m + 1) hlt
      have hX := h.hi
      have b0 : ((m : Int) + 1 - 1) < (n : Int) := by omega
      have b1 : ((m + 1 : Nat) : Int) < (n : Int) := by omega
      cases hle : lt (F (m + 1)) (F m)
      · have d : (!(Op.bytesLess (F m).toList (F (m + 1)).toList || (F m).toList == (F (m + 1)).toList)) = false := by rw [gtr_iff, hle]
        go_wp2
        go_quiet (fail)
        go_wp2
        exact ⟨⟨m + 1 + 1, q + nq, by omega, by omega, by go_num, rfl, Sorted.snoc hS hle⟩, by simp [intOf]; omega⟩
      · have d : (!(Op.bytesLess (F m).toList (F (m + 1)).toList || (F m).toList == (F (m + 1)).toList)) = true := by rw [gtr_iff, hle]
        go_wp2
        go_quiet (fail)
        go_wp2_with fail
        refine (sortFunc_AR c (h1.drewN (q + nq)) hn).mono ?_
        rintro e w' ⟨rfl, hg, F', hAR, hcn, hso⟩
        have hg' : w.grownBy w' (some X) := grown_trans (grown_draws (World.grownBy_alloc w _ _) _) hg
        clear hg c0 c1 e0 e1 hnil d hle b0 b1
        go_wp2
        exact bodyPost_ret (results_none Try.results32 _ _ _) rfl ⟨rfl, hg', F', hAR, hcn, hso⟩
    · go_wp2
      go_end0
      exact ⟨rfl, grown_draws (World.grownBy_alloc w _ _) _, F, h1.drewN q, fun _ => rfl, fun p q h1 h2 h3 => hS p q h1 h2 (by omega)⟩

set_option maxHeartbeats 1000000 in
/-- slices.ContainsFunc at no element: false, whatever the function. -/
theorem contains_none (fv : Value) (w : World) : Calls Try.prog 33 #[.slice none 0 0, fv] w fun e w' => e = .returned (.bool false) ∧ w' = w := by
  have hidx : ∀ w : World, Calls Try.prog 44 #[.slice none 0 0, fv] w fun e w' => e = .returned (.int .i64 (-1)) ∧ w' = w := by
    intro w
    go_enter Try.func44, Try.ntmps44
    go_wp2
    refine wp_loop_rounds 1 ?_
    rw [rounds_succ]
    go_wp2
    go_ret
    exact ⟨rfl, rfl⟩
  go_enter Try.func33, Try.ntmps33
  go_wp2_with fail
  refine (hidx _).mono ?_
  rintro e w' ⟨rfl, rfl⟩
  go_wp2
  go_ret
  exact ⟨rfl, rfl⟩

/-- A set over none, whose attributes (a name, no value) lie in block X, in the order F. -/
structure SetAt (w : World) (S X n c : Nat) (F : Nat → ByteArray) : Prop where
  hS : S < w.heap.size
  row : AR w X n F
  attrs : w.cell? ⟨S, 0, none⟩ = some (.slice (some ⟨X, 0, none⟩) n c)
  under : w.cell? ⟨S, 1, none⟩ = some (.pointer none)

/-- What setOf leaves: a set over none whose attributes are the row's, in byte order. -/
def SetRet (w : World) (X n c : Nat) (F : Nat → ByteArray) (e : Ending) (w' : World) : Prop :=
  ∃ S F', e = .returned (.pointer (some ⟨S, 0, none⟩)) ∧ w.heap.size ≤ S ∧ SetAt w' S X n c F' ∧ w.grownBy w' (some X) ∧ (∀ x, cnt F' x n = cnt F x n) ∧ Sorted F' 0 n

set_option maxHeartbeats 1000000 in
theorem setOf_any {X n : Nat} (c : Nat) {F : Nat → ByteArray} {w : World} (h : AR w X n F) (hn : n ≤ 1048576) :
    Calls Try.prog 25 #[.agg #[.slice (some ⟨X, 0, none⟩) n c, .slice none 0 0]] w (SetRet w X n c F) := by
  have h1 : AR (w.alloc (.cells #[.slice (some ⟨X, 0, none⟩) n c, .slice none 0 0] 48)) X n F := h.kept (World.grownBy_alloc w _ none) (by simp)
  have hX := h.hi
  go_enter Try.func25, Try.ntmps25
  go_wp2_with fail
  refine (sort_any c h1 hn).mono ?_
  rintro e w1 ⟨rfl, hg, F', hAR, hcn, hso⟩
  have hbk := hg.block w.heap.size (by simp) (by simp; omega)
  have hc0 : w1.cell? ⟨w.heap.size, 0, none⟩ = some (.slice (some ⟨X, 0, none⟩) n c) := (World.cell?_of_block (a := ⟨w.heap.size, 0, none⟩) hbk).trans (by simp)
  have hc1 : w1.cell? ⟨w.heap.size, 1, none⟩ = some (.slice none 0 0) := (World.cell?_of_block (a := ⟨w.heap.size, 1, none⟩) hbk).trans (by simp)
  clear hbk
  go_wp2_with fail
  refine (contains_none _ _).mono ?_
  rintro e w2 ⟨rfl, rfl⟩
  go_wp2
  go_ret
  refine ⟨w2.heap.size, F', rfl, ?_, ⟨by simp, hAR.kept (World.grownBy_alloc _ _ none) (by simp), by simp, by simp⟩, grown_trans (grown_trans (World.grownBy_alloc w _ _) hg) (World.grownBy_alloc _ _ _), hcn, hso⟩
  have := hg.size
  simp at this
  omega
end Go.Proofs.Qxb6612962a.Sets
