/-
  Seat b6600404a: a map[int]int that the call has made, by the function that it stands for.
-/
import Derived.Test.Qxb6600404aKit
import Derived.Maps.OwnSet
import Derived.Maps.Views
namespace Go.Proofs.Qxb6600404a
open Go.RowKit
set_option linter.unusedVariables false
set_option linter.unusedSimpArgs false

/-- An integer of kind int. -/
abbrev Fits (x : Int) : Prop := (Lit.int .i64 x).wf = true
abbrev key (x : Int) : Lit := .int .i64 x

/-- Block b is a map of at most n entries that holds v for x exactly where f x = some v (x any int). -/
def IM (w : World) (b n : Nat) (f : Int → Option Int) : Prop :=
  ∃ D : DataW Unit, w.ownsMap Try.prog 3 (plainElem Try.prog 3) b n D ∧ Maps.IsMap D ∧ ∀ x, Fits x → Maps.has D (key x) = (f x).isSome ∧ ∀ z, D.atKey (key x) z = (match f x with | some v => .lit (.int .i64 v) | none => z)

def upd (f : Int → Option Int) (x v : Int) : Int → Option Int := fun y => if y = x then some v else f y
def del (f : Int → Option Int) (x : Int) : Int → Option Int := fun y => if y = x then none else f y

theorem key_lit (x : Int) : WideAt.IsKeyLit (key x) := trivial

theorem int3 : Maps.Keyed Try.prog 3 := Maps.int_keyed Try.underlying3

theorem IM.lt {w : World} {b n : Nat} {f : Int → Option Int} (h : IM w b n f) : b < w.heap.size := by
  obtain ⟨D, h1, _⟩ := h
  exact h1.lt
/-- The block is no row. -/
theorem IM.ne {w : World} {b n g : Nat} {f : Int → Option Int} {cs : List Value} {t : TypeId} (h : IM w b n f) (hb : Blk w g cs t) : b ≠ g := by
  obtain ⟨D, ⟨es, clock, h1, _⟩, _⟩ := h
  rintro rfl
  have := h1.symm.trans hb
  cases this
theorem IM.fr {M : Nat → Prop} {w w' : World} {b n : Nat} {f : Int → Option Int} (h : IM w b n f) (hf : Fr M w w') (hm : ¬ M b) : IM w' b n f := by
  have hlt := h.lt
  obtain ⟨D, ⟨es, clock, h1, h2⟩, h3⟩ := h
  exact ⟨D, ⟨es, clock, (hf.block b hlt hm).trans h1, h2⟩, h3⟩
theorem IM.keep {w w' : World} {b n : Nat} {f : Int → Option Int} (h : IM w b n f) (hb : Below w.heap.size w w') : IM w' b n f := h.fr (Fr.of_below (M := fun _ => False) hb) id
theorem IM.drew {w : World} {b n : Nat} {f : Int → Option Int} (h : IM w b n f) : IM w.drew b n f := h
theorem IM.drewN {w : World} {b n : Nat} {f : Int → Option Int} (h : IM w b n f) (q : Nat) : IM (w.drewN q) b n f := h
theorem IM.alloc {w : World} {b n : Nat} {f : Int → Option Int} (h : IM w b n f) (o : Obj) : IM (w.alloc o) b n f := h.fr ((Fr.refl (fun _ => False) w).alloc o) id
theorem IM.congr {w : World} {b n : Nat} {f g : Int → Option Int} (h : IM w b n f) (hfg : ∀ x, f x = g x) : IM w b n g := by
  obtain rfl : f = g := funext hfg
  exact h

theorem IM.made (w : World) : IM (w.alloc (.map #[] 0)) w.heap.size 0 (fun _ => none) :=
  ⟨.map [], World.ownsMap_made w Try.prog 3 _, Maps.isMap_empty, fun x _ => ⟨rfl, fun z => rfl⟩⟩

theorem fits0 : Fits 0 := by decide
theorem zero3 (w : World) : (zeroValue 3).run Try.prog w = .ok (.int .i64 0) w := Try.zeroValue3 w

/-- v, ok := m[x] -/
theorem IM.look {w : World} {b n : Nat} {f : Int → Option Int} (h : IM w b n f) (x : Int) (hx : Fits x) : (Instr.lookup 71 (.map (some b)) (.int .i64 x) true).run Try.prog w = .ok (.tuple #[.int .i64 ((f x).getD 0), .bool (f x).isSome]) w := by
  obtain ⟨D, h1, hD, h2⟩ := h
  obtain ⟨hh, ha⟩ := h2 x hx
  obtain ⟨v, ps, hrun, hv⟩ := h1.look_ok int3 Try.underlying71 (zero3 w) (plainElem_int Try.underlying3 fits0) (Maps.keyOf_int_mk Try.underlying3 hx)
  obtain ⟨c, rfl, hc, _⟩ := plainElem_int_inv Try.underlying3 hv
  rw [hrun]
  have e1 := ha (.lit (.int .i64 0))
  simp only [Prod.mk.injEq] at hc
  rw [show Maps.has D (Lit.int IntKind.i64 x) = (f x).isSome from hh]
  have e2 : DataW.lit (.int .i64 c) = (match f x with | some v => DataW.lit (H := Unit) (.int .i64 v) | none => .lit (.int .i64 0)) := hc.1.symm.trans e1
  cases hf : f x with
  | none => rw [hf] at e2; simp at e2; subst e2; rfl
  | some u => rw [hf] at e2; simp at e2; subst e2; rfl

/-- m[x] = v -/
theorem IM.put {w : World} {b n : Nat} {f : Int → Option Int} (h : IM w b n f) (x v : Int) (hx : Fits x) (hv : Fits v) (hn : n < maxLen) : ∃ w', (Instr.mapUpdate 71 (.map (some b)) (.int .i64 x) (.int .i64 v)).run Try.prog w = .ok () w' ∧ IM w' b (n + 1) (upd f x v) ∧ Fr (fun k => k = b) w w' := by
  obtain ⟨D, h1, hD, h2⟩ := h
  obtain ⟨w', hrun, hown, hg⟩ := h1.update int3 Try.underlying71 hn (Maps.keyOf_int_mk Try.underlying3 hx) (plainElem_int Try.underlying3 hv)
  refine ⟨w', hrun, ⟨_, hown, hD.put _ _, fun y hy => ?_⟩, Fr.of_grown hg (fun k hk => by simpa using hk.symm)⟩
  by_cases e : y = x
  · subst e
    exact ⟨by rw [Maps.has_put_same hD (key_lit y)]; simp [upd], fun z => by rw [Maps.atKey_put_same hD (key_lit y)]; simp [upd]⟩
  · have hne : key y ≠ key x := by intro h; simp [key] at h; exact e h
    obtain ⟨a1, a2⟩ := h2 y hy
    refine ⟨by rw [Maps.has_put_other hne, a1]; simp [upd, e], fun z => ?_⟩
    rw [Maps.atKey_put_other hne, a2 z]
    simp [upd, e]

/-- delete(m, x) -/
theorem IM.drop {w : World} {b n : Nat} {f : Int → Option Int} (h : IM w b n f) (x : Int) (hx : Fits x) (ty : TypeId) : ∃ w', (Builtin.delete_ #[71, 3] ty #[.map (some b), .int .i64 x]).run Try.prog w = .ok (.tuple #[]) w' ∧ IM w' b n (del f x) ∧ Fr (fun k => k = b) w w' := by
  obtain ⟨D, h1, hD, h2⟩ := h
  obtain ⟨w', hrun, hown, ht⟩ := h1.drop int3 Try.underlying71 (Maps.keyOf_int_mk Try.underlying3 hx) ty
  refine ⟨w', hrun, ⟨_, hown, hD.del _, fun y hy => ?_⟩, Fr.of_grown ht.grown (fun k hk => by simpa using hk.symm)⟩
  by_cases e : y = x
  · subst e
    exact ⟨by rw [Maps.has_del_same]; simp [del], fun z => by rw [Maps.atKey_del_same]; simp [del]⟩
  · have hne : key y ≠ key x := by intro h; simp [key] at h; exact e h
    obtain ⟨a1, a2⟩ := h2 y hy
    refine ⟨by rw [Maps.has_del_other hne, a1]; simp [del, e], fun z => ?_⟩
    rw [Maps.atKey_del_other hne, a2 z]
    simp [del, e]

end Go.Proofs.Qxb6600404a
