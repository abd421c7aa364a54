/-
  Seat b6600404a: get on a sparse table: what is indexed; what is not up.
-/
import Derived.Test.Qxb6600404aSparse2
namespace Go.Proofs.Qxb6600404a
open Go.RowKit
set_option linter.unusedVariables false
set_option linter.unusedSimpArgs false

/-- A link table's six cells, by the run set's two. -/
def mkL (pv kv mv av : Value) (v n : Value) : List Value := [pv, kv, mv, v, n, av]
theorem hdrL (pv kv mv av : Value) : Hdr (mkL pv kv mv av) 3 := ⟨fun _ _ => rfl, fun _ _ => rfl, fun _ _ _ => rfl, fun _ _ _ => rfl⟩

/-- A sparse link table at block t. -/
structure ST (w : World) (B t : Nat) (pv kv : Value) (mb : Nat) (uv : Value) (un : Int) (ps ts : List Int) (rs : List (Int × Int)) (f : Int → Option Int) (m : Nat) : Prop where
  tab : LT w B t pv kv (.map (some mb)) uv (.int .i64 un) (.map none) ps ts
  runs : w.ownsRow B 68 2 uv rs.length (flat rs)
  map : IM w mb m f
  lowm : B ≤ mb

theorem ST.rs {w : World} {B t : Nat} {pv kv : Value} {mb : Nat} {uv : Value} {un : Int} {ps ts : List Int} {rs : List (Int × Int)} {f : Int → Option Int} {m : Nat} (h : ST w B t pv kv mb uv un ps ts rs f m) : RS (mkL pv kv (.map (some mb)) (.map none)) 74 w B t uv rs un := ⟨h.tab.hdr, h.runs⟩
theorem ST.keep {w w' : World} {B t : Nat} {pv kv : Value} {mb : Nat} {uv : Value} {un : Int} {ps ts : List Int} {rs : List (Int × Int)} {f : Int → Option Int} {m : Nat} (h : ST w B t pv kv mb uv un ps ts rs f m) (hb : Below w.heap.size w w') : ST w' B t pv kv mb uv un ps ts rs f m :=
  ⟨h.tab.keep hb, ownsRow_keep h.runs hb, h.map.keep hb, h.lowm⟩

/-- get hands out the record at place i. -/
def HitPost (kv : Value) (i : Nat) (w : World) (e : Ending) (w' : World) : Prop := w' = w ∧ ∃ g, kv.ownBlock = some g ∧ e = .returned (.tuple #[.pointer (some ⟨g, i * 19, none⟩), .bool true])

set_option maxHeartbeats 1000000 in
set_option maxRecDepth 100000 in
theorem get51_hit (B t : Nat) (pv kv : Value) (mb : Nat) (uv : Value) (un : Int) (ps ts : List Int) (rs : List (Int × Int)) (f : Int → Option Int) (m : Nat) (j : Int) (i : Nat) (w : World) (h : ST w B t pv kv mb uv un ps ts rs f m) (hf : f j = some (i : Int)) (hi : i < ts.length) (hn : ts.length ≤ 1000000) (hj : Fits j) :
    Calls Try.prog 51 #[.pointer (some ⟨t, 0, none⟩), .int .i64 j] w (HitPost kv i w) := by
  have c1 := h.tab.hdr.cell (j := 1) rfl
  have c2 := h.tab.hdr.cell (j := 2) rfl
  have hlook := h.map.look j hj
  rw [hf] at hlook
  simp only [Option.getD_some, Option.isSome_some] at hlook
  obtain ⟨g, cap, rest, rfl, hg, hnc, _, _, hblk⟩ := h.tab.keptAt hi
  generalize ts.length = N at hi hn c1 hnc
  clear h hf hblk hg hj
  go_enter Try.func51, Try.ntmps51
  go_wp2_with fail
  refine (sparse60 t (some mb) w c2).mono ?_
  rintro e w' ⟨rfl, rfl⟩
  go_wp2
  go_ret2
  exact ⟨rfl, g, rfl, rfl⟩

set_option maxHeartbeats 1000000 in
set_option maxRecDepth 100000 in
theorem get51_miss (B t : Nat) (pv kv : Value) (mb : Nat) (uv : Value) (un : Int) (ps ts : List Int) (rs : List (Int × Int)) (f : Int → Option Int) (m : Nat) (j : Int) (w : World) (h : ST w B t pv kv mb uv un ps ts rs f m) (hf : f j = none) (hno : ¬ ∃ q ∈ rs, q.1 ≤ j ∧ j < q.2) (hpw : Pw rs) (hlen : rs.length ≤ 100000000) (hj : Fits j) :
    Calls Try.prog 51 #[.pointer (some ⟨t, 0, none⟩), .int .i64 j] w (fun e w' => e = .returned (.tuple #[.pointer none, .bool false]) ∧ Below w.heap.size w w') := by
  have c1 := h.tab.hdr.cell (j := 1) rfl
  have c2 := h.tab.hdr.cell (j := 2) rfl
  have hlook := h.map.look j hj
  rw [hf] at hlook
  simp only [Option.getD_none, Option.isSome_none] at hlook
  have HRS := hid h.rs
  have HNO := hid hno
  clear h hf hj hno
  go_enter Try.func51, Try.ntmps51
  go_wp2_with fail
  refine (sparse60 t (some mb) w c2).mono ?_
  rintro e w' ⟨rfl, rfl⟩
  go_wp2_with fail
  refine (has55 (hdrL pv kv (.map (some mb)) (.map none)) B t uv rs un j _ HRS.out hpw hlen).mono ?_
  rintro e w2 ⟨r, rfl, hr, hb2⟩
  obtain rfl : r = false := by
    cases r with
    | false => rfl
    | true => exact absurd (hr.1 rfl) HNO.out
  clear hr hlook
  go_wp2
  go_ret2
  exact ⟨rfl, hb2⟩

end Go.Proofs.Qxb6600404a
