/-
  Seat b6600404a: words shared by the walks: a row of integers that is read.
-/
import Derived.Test.Qxb6600404aRows
import Derived.WalkKit
import Derived.WalkSmall
import Derived.WalkLawsBesides
import Derived.BigQuiet
import Derived.Deep.QuietTactic
import Derived.Deep.LoopGhost
namespace Go.Proofs.Qxb6600404a
open Go.RowKit

/-- A slice value (address 'a', 'n' elements) whose elements are the integers 'xs'. -/
def Row (k : IntKind) (w : World) (a : Option Addr) (n : Nat) (xs : List Int) : Prop :=
  xs.length = n ∧ (0 < n → ∃ b off, a = some ⟨b, off, none⟩ ∧ ∀ i x, xs[i]? = some x → w.cell? ⟨b, off + i, none⟩ = some (.int k x))

theorem Row.len {k : IntKind} {w : World} {a : Option Addr} {n : Nat} {xs : List Int} (h : Row k w a n xs) : xs.length = n := h.1

/-- The i-th element: where it lies, and that it is the list's. -/
theorem Row.at {k : IntKind} {w : World} {a : Option Addr} {n : Nat} {xs : List Int} (h : Row k w a n xs) (i : Nat) (hi : i < n) :
    ∃ b off x, a = some ⟨b, off, none⟩ ∧ w.cell? ⟨b, off + i, none⟩ = some (.int k x) ∧ Hid (xs[i]? = some x) := by
  obtain ⟨b, off, e, hc⟩ := h.2 (by omega)
  have hl : i < xs.length := by rw [h.1]; exact hi
  exact ⟨b, off, xs[i], e, hc i _ (List.getElem?_eq_getElem hl), List.getElem?_eq_getElem hl⟩

theorem Row.drewN {k : IntKind} {w : World} {a : Option Addr} {n : Nat} {xs : List Int} (h : Row k w a n xs) (q : Nat) : Row k (w.drewN q) a n xs := h

/-- What lay below the heap's size reads on as it did. -/
theorem Row.below {k : IntKind} {w w' : World} {a : Option Addr} {n : Nat} {xs : List Int} (h : Row k w a n xs) {B : Nat} (hb : Below B w w') (hB : ∀ b off, a = some ⟨b, off, none⟩ → b < B) : Row k w' a n xs := by
  refine ⟨h.1, fun hn => ?_⟩
  obtain ⟨b, off, e, hc⟩ := h.2 hn
  refine ⟨b, off, e, fun i x hx => ?_⟩
  rw [hb.cell (p := ⟨b, off + i, none⟩) (hB b off e)]
  exact hc i x hx

theorem Row.lt {k : IntKind} {w : World} {a : Option Addr} {n : Nat} {xs : List Int} (h : Row k w a n xs) (hn : 0 < n) : ∃ b off, a = some ⟨b, off, none⟩ ∧ b < w.heap.size := by
  obtain ⟨b, off, x, e, hc, _⟩ := h.at 0 hn
  exact ⟨b, off, e, World.block_lt_of_cell? w _ hc⟩

/-- The same, with nothing to be shown: the whole of the old heap. -/
theorem Row.keep {k : IntKind} {w w' : World} {a : Option Addr} {n : Nat} {xs : List Int} (h : Row k w a n xs) (hb : Below w.heap.size w w') : Row k w' a n xs := by
  refine ⟨h.1, fun hn => ?_⟩
  obtain ⟨b, off, e, hc⟩ := h.2 hn
  refine ⟨b, off, e, fun i x hx => ?_⟩
  have hc' := hc i x hx
  rw [hb.cell (p := ⟨b, off + i, none⟩) (World.block_lt_of_cell? w _ hc')]
  exact hc'

theorem take_snoc {α : Type} {l : List α} {k : Nat} {x : α} (h : l[k]? = some x) : l.take (k + 1) = l.take k ++ [x] := by
  obtain ⟨hl, e⟩ := List.getElem?_eq_some_iff.1 h
  rw [List.take_succ_eq_append_getElem hl, e]

theorem take_all {α : Type} {l : List α} {k : Nat} (h : l.length ≤ k) : l.take k = l := List.take_of_length_le h

theorem ret_bool {a b : Bool} (h : a = b) : Ending.returned (.bool a) = .returned (.bool b) := by rw [h]
theorem ret_int {k : IntKind} {a b : Int} (h : a = b) : Ending.returned (.int k a) = .returned (.int k b) := by rw [h]

theorem hid {p : Prop} (h : p) : Hid p := h

/-! ### A block of plain cells that is known whole -/
/-- Block 'g' holds the cells 'cs' (element type 't'), none of them frozen. -/
def Blk (w : World) (g : Nat) (cs : List Value) (t : TypeId) : Prop := w.heap[g]? = some (.cells cs.toArray t (0, 0))

theorem Blk.lt {w : World} {g : Nat} {cs : List Value} {t : TypeId} (h : Blk w g cs t) : g < w.heap.size := lt_of_block h
theorem Blk.cell {w : World} {g : Nat} {cs : List Value} {t : TypeId} (h : Blk w g cs t) {j : Nat} {v : Value} (hj : cs[j]? = some v) : w.cell? ⟨g, j, none⟩ = some v := by
  rw [cell_of_row w g j _ t (0, 0) h]; simpa using hj
theorem Blk.free {w : World} {g : Nat} {cs : List Value} {t : TypeId} (h : Blk w g cs t) (j : Nat) : w.frozen? ⟨g, j, none⟩ = false := frozen_of_row w g j _ t h
theorem Blk.below {w w' : World} {g B : Nat} {cs : List Value} {t : TypeId} (h : Blk w g cs t) (hb : Below B w w') (hg : g < B) : Blk w' g cs t := (hb.block g hg).trans h
theorem Blk.keep {w w' : World} {g : Nat} {cs : List Value} {t : TypeId} (h : Blk w g cs t) (hb : Below w.heap.size w w') : Blk w' g cs t := h.below hb h.lt
theorem Blk.set {w : World} {g : Nat} {cs : List Value} {t : TypeId} (h : Blk w g cs t) (j : Nat) (v : Value) : Blk (w.setCell ⟨g, j, none⟩ v) g (cs.set j v) t := by
  have := heap_setCell_same w g j _ t v h
  simpa [Blk] using this
theorem Blk.other {w : World} {g : Nat} {cs : List Value} {t : TypeId} (h : Blk w g cs t) {a : Addr} (v : Value) (hne : g ≠ a.block) : Blk (w.setCell a v) g cs t := (heap_setCell_other w a g v hne).trans h
theorem Blk.alloc {w : World} {g : Nat} {cs : List Value} {t : TypeId} (h : Blk w g cs t) (o : Obj) : Blk (w.alloc o) g cs t := (Below.heap_alloc w o g h.lt).trans h
theorem Blk.new (w : World) (cs : List Value) (t : TypeId) : Blk (w.alloc (.cells cs.toArray t)) w.heap.size cs t := heap_alloc_new w _
theorem Blk.drewN {w : World} {g : Nat} {cs : List Value} {t : TypeId} (h : Blk w g cs t) (q : Nat) : Blk (w.drewN q) g cs t := h
theorem Blk.drew {w : World} {g : Nat} {cs : List Value} {t : TypeId} (h : Blk w g cs t) : Blk w.drew g cs t := h
theorem Blk.grown {w w' : World} {g : Nat} {cs : List Value} {t : TypeId} {row : Option Nat} (h : Blk w g cs t) (hg : w.grownBy w' row) (hne : some g ≠ row) : Blk w' g cs t := (hg.block g h.lt hne).trans h

/-- Of the blocks that were there, those of which 'M' does not speak are as they were. -/
structure Fr (M : Nat → Prop) (w w' : World) : Prop where
  os : w'.os = w.os
  tape : w'.tape = w.tape
  output : w'.output = w.output
  size : w.heap.size ≤ w'.heap.size
  block : ∀ k, k < w.heap.size → ¬ M k → w'.heap[k]? = w.heap[k]?

theorem Fr.refl (M : Nat → Prop) (w : World) : Fr M w w := ⟨rfl, rfl, rfl, Nat.le_refl _, fun _ _ _ => rfl⟩
theorem Fr.trans {M : Nat → Prop} {a b c : World} (h : Fr M a b) (k : Fr M b c) : Fr M a c :=
  ⟨k.os.trans h.os, k.tape.trans h.tape, k.output.trans h.output, Nat.le_trans h.size k.size, fun i hi hm => (k.block i (Nat.lt_of_lt_of_le hi h.size) hm).trans (h.block i hi hm)⟩
/-- What is new since 'a' may be turned by a later step, whatever that step says of it. -/
theorem Fr.trans' {M N : Nat → Prop} {a b c : World} (h : Fr M a b) (k : Fr N b c) (hN : ∀ i, i < a.heap.size → N i → M i) : Fr M a c :=
  ⟨k.os.trans h.os, k.tape.trans h.tape, k.output.trans h.output, Nat.le_trans h.size k.size, fun i hi hm => (k.block i (Nat.lt_of_lt_of_le hi h.size) (fun hn => hm (hN i hi hn))).trans (h.block i hi hm)⟩
theorem Fr.of_below {M : Nat → Prop} {w w' : World} (h : Below w.heap.size w w') : Fr M w w' := ⟨h.os, h.tape, h.output, h.size, fun k hk _ => h.block k hk⟩
theorem Fr.of_grown {M : Nat → Prop} {w w' : World} {row : Option Nat} (h : w.grownBy w' row) (hr : ∀ k, row = some k → M k) : Fr M w w' :=
  ⟨h.os, h.tape, h.output, h.size, fun k hk hm => h.block k hk (fun e => hm (hr k e.symm))⟩
theorem Fr.setCell {M : Nat → Prop} {a w : World} (h : Fr M a w) {p : Addr} (v : Value) (hp : p.block < a.heap.size → M p.block) : Fr M a (w.setCell p v) :=
  ⟨h.os, h.tape, h.output, by simpa [World.setCell] using h.size, fun k hk hm => by
    rw [heap_setCell_other w p k v (fun e => hm (by subst e; exact hp hk))]; exact h.block k hk hm⟩
theorem Fr.alloc {M : Nat → Prop} {a w : World} (h : Fr M a w) (o : Obj) : Fr M a (w.alloc o) :=
  ⟨h.os, h.tape, h.output, by have := h.size; simp; omega, fun k hk hm => by rw [Below.heap_alloc w o k (Nat.lt_of_lt_of_le hk h.size)]; exact h.block k hk hm⟩
theorem Fr.drewN {M : Nat → Prop} {a w : World} (h : Fr M a w) (q : Nat) : Fr M a (w.drewN q) := ⟨h.os, h.tape, h.output, h.size, h.block⟩
theorem Fr.drew {M : Nat → Prop} {a w : World} (h : Fr M a w) : Fr M a w.drew := ⟨h.os, h.tape, h.output, h.size, h.block⟩
theorem Fr.below {M : Nat → Prop} {w w' : World} (h : Fr M w w') {B : Nat} (hB : B ≤ w.heap.size) (hM : ∀ k, M k → B ≤ k) : Below B w w' :=
  ⟨h.os, h.tape, h.output, h.size, fun k hk => h.block k (by omega) (fun hm => by have := hM k hm; omega)⟩
theorem Blk.fr {M : Nat → Prop} {w w' : World} {g : Nat} {cs : List Value} {t : TypeId} (h : Blk w g cs t) (hf : Fr M w w') (hm : ¬ M g) : Blk w' g cs t := (hf.block g h.lt hm).trans h

theorem Below.of_drewN (w : World) (q B : Nat) : Below B w (w.drewN q) := ⟨rfl, rfl, rfl, Nat.le_refl _, fun _ _ => rfl⟩

theorem ownsRow_keep {w w' : World} {base : Nat} {e : TypeId} {size : Nat} {v : Value} {n : Nat} {xs : List Value} (h : w.ownsRow base e size v n xs) (hb : Below w.heap.size w w') : w'.ownsRow base e size v n xs :=
  h.kept (row := none) ⟨hb.os, hb.tape, hb.output, hb.size, fun k hk _ => hb.block k hk⟩ (by cases v.ownBlock <;> simp)

theorem ownsRow_fr {M : Nat → Prop} {w w' : World} {base : Nat} {e : TypeId} {size : Nat} {v : Value} {n : Nat} {xs : List Value} (h : w.ownsRow base e size v n xs) (hf : Fr M w w') (hm : ∀ g, v.ownBlock = some g → ¬ M g) : w'.ownsRow base e size v n xs := by
  refine ⟨h.1, ?_⟩
  rcases h.2 with hn | ⟨g, cap, cur, rfl, hb, hgg, rest⟩
  · exact .inl hn
  · refine .inr ⟨g, cap, cur, rfl, hb, ?_, rest⟩
    rw [hf.block g (lt_of_block hgg) (hm g rfl)]
    exact hgg

theorem ownsRow_drewN {w : World} {base : Nat} {e : TypeId} {size : Nat} {v : Value} {n : Nat} {xs : List Value} (h : w.ownsRow base e size v n xs) (q : Nat) : (w.drewN q).ownsRow base e size v n xs := h

/-- The value's shape, and the row as a block. -/
theorem ownsRow_form {w : World} {base : Nat} {e : TypeId} {size : Nat} {v : Value} {n : Nat} {xs : List Value} (h : w.ownsRow base e size v n xs) :
    (v = .slice none 0 0 ∧ n = 0 ∧ xs = []) ∨ ∃ g cap rest, v = .slice (some ⟨g, 0, none⟩) n cap ∧ base ≤ g ∧ n ≤ cap ∧ cap ≤ maxLen ∧ xs.length = n * size ∧ xs.length + rest.length = cap * size ∧ Blk w g (xs ++ rest) e := by
  rcases h.2 with ⟨hv, hn⟩ | ⟨g, cap, cur, hv, hb, hh, hnc, hcm, hcs, htake⟩
  · subst hn
    exact .inl ⟨hv, rfl, List.eq_nil_of_length_eq_zero (by simpa using h.1)⟩
  · refine .inr ⟨g, cap, cur.toList.drop (n * size), hv, hb, hnc, hcm, h.1, ?_, ?_⟩
    · have hle : n * size ≤ cap * size := Nat.mul_le_mul_right _ hnc
      rw [h.1, List.length_drop, Array.length_toList, hcs]; omega
    · have e : xs ++ cur.toList.drop (n * size) = cur.toList := by rw [← htake]; exact List.take_append_drop _ _
      show w.heap[g]? = _
      rw [e]; simpa using hh

theorem ownsRow_mk {w : World} {base : Nat} {e : TypeId} {size g cap n : Nat} {xs rest : List Value} (hb : base ≤ g) (hnc : n ≤ cap) (hcm : cap ≤ maxLen) (hx : xs.length = n * size) (hr : xs.length + rest.length = cap * size) (hk : Blk w g (xs ++ rest) e) :
    w.ownsRow base e size (.slice (some ⟨g, 0, none⟩) n cap) n xs :=
  ⟨hx, .inr ⟨g, cap, (xs ++ rest).toArray, rfl, hb, hk, hnc, hcm, by simpa using hr, by rw [← hx]; simp⟩⟩

end Go.Proofs.Qxb6600404a
