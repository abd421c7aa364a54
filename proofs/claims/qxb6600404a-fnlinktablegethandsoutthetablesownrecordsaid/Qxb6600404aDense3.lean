/-
  Seat b6600404a: what the dense link table's law calls: sparse, get, ZZLinkTablePeers, ZZLinkTableTags, ZZLinkTableKeptCopy, ZZLinkSetSeq, ZZLinkIsZero, ZZLinkSeq.
-/
import Derived.Test.Qxb6600404aDense2
import Derived.Laws.StructEq
import Derived.Laws.Pointers
import Derived.WalkSpells
namespace Go.Proofs.Qxb6600404a
open Go.RowKit
set_option linter.unusedVariables false
set_option linter.unusedSimpArgs false

/-- A link table at block t: its header's six cells, its peers and what it keeps for them, in rows of blocks from B on. -/
structure LT (w : World) (B t : Nat) (pv kv mv uv un av : Value) (ps ts : List Int) : Prop where
  hdr : Blk w t [pv, kv, mv, uv, un, av] 74
  low : B ≤ t
  peers : w.ownsRow B 3 1 pv ps.length (ints .i64 ps)
  kept : w.ownsRow B 83 19 kv ts.length (links ts)

theorem LT.keep {w w' : World} {B t : Nat} {pv kv mv uv un av : Value} {ps ts : List Int} (h : LT w B t pv kv mv uv un av ps ts) (hb : Below w.heap.size w w') : LT w' B t pv kv mv uv un av ps ts :=
  ⟨h.hdr.keep hb, h.low, ownsRow_keep h.peers hb, ownsRow_keep h.kept hb⟩

/-- A row of integers that a call owns reads as those integers. -/
theorem row_owned {w : World} {B : Nat} {k : IntKind} {e : TypeId} {v : Value} {xs : List Int} (h : w.ownsRow B e 1 v xs.length (ints k xs)) : ∃ a cap, v = .slice a xs.length cap ∧ Row k w a xs.length xs ∧ (a = none → cap = 0) ∧ (∀ ad, a = some ad → ∃ g rest, ad = ⟨g, 0, none⟩ ∧ B ≤ g ∧ xs.length ≤ cap ∧ cap ≤ maxLen ∧ xs.length + rest.length = cap ∧ Blk w g (ints k xs ++ rest) e) := by
  rcases ownsRow_form h with ⟨rfl, h0, _⟩ | ⟨g, cap, rest, rfl, hg, hnc, hcm, hl, hl2, hblk⟩
  · obtain rfl : xs = [] := List.eq_nil_of_length_eq_zero h0
    exact ⟨none, 0, rfl, ⟨rfl, fun h => absurd h (by simp)⟩, fun _ => rfl, fun ad h => by cases h⟩
  · refine ⟨some ⟨g, 0, none⟩, cap, rfl, Row.of_blk hblk rfl, fun h => (by cases h), fun ad h => ?_⟩
    cases h
    exact ⟨g, rest, rfl, hg, hnc, hcm, by rw [ints_length] at hl2; omega, hblk⟩

theorem neq71 (w : World) (r : Option Nat) : (binOp .neq 71 (.map r) (.map none)).run Try.prog w = .ok (.bool (!r.isNone)) w := run_neq_map_nil w 71 3 3 r Try.underlying71

set_option maxHeartbeats 400000 in
theorem sparse60 (t : Nat) (r : Option Nat) (w : World) (he : w.cell? ⟨t, 2, none⟩ = some (.map r)) :
    Calls Try.prog 60 #[.pointer (some ⟨t, 0, none⟩)] w (fun e w' => e = .returned (.bool r.isSome) ∧ w' = w) := by
  have hne := neq71
  go_enter Try.func60, Try.ntmps60
  go_wp2
  go_ret
  exact ⟨rfl, rfl⟩

/-- What get comes to on a dense table. -/
def GetPost (ps ts : List Int) (kv : Value) (j : Int) (w : World) (e : Ending) (w' : World) : Prop :=
  w' = w ∧ ((∃ (g k : Nat), kv.ownBlock = some g ∧ e = .returned (.tuple #[.pointer (some ⟨g, k * 19, none⟩), .bool true]) ∧ ps[k]? = some j) ∨ (e = .returned (.tuple #[.pointer none, .bool false]) ∧ ∀ k : Nat, ps[k]? ≠ some j))

set_option maxHeartbeats 1000000 in
set_option maxRecDepth 100000 in
theorem get51_dense (B t : Nat) (pv kv uv un av : Value) (ps ts : List Int) (j : Int) (w : World) (h : LT w B t pv kv (.map none) uv un av ps ts) (hl : ps.length = ts.length) (hn : ps.length ≤ 100000000) (hs : SAscTo ps ps.length) :
    Calls Try.prog 51 #[.pointer (some ⟨t, 0, none⟩), .int .i64 j] w (GetPost ps ts kv j w) := by
  have c0 := h.hdr.cell (j := 0) rfl
  have c1 := h.hdr.cell (j := 1) rfl
  have c2 := h.hdr.cell (j := 2) rfl
  obtain ⟨ap, cp, rfl, hrow, _, _⟩ := row_owned h.peers
  rcases ownsRow_form h.kept with ⟨rfl, h0, _⟩ | ⟨g, cap, rest, rfl, hg, hnc, hcm, hl1, hl2, hblk⟩
  · obtain rfl : ps = [] := List.eq_nil_of_length_eq_zero (by omega)
    clear h hl
    go_enter Try.func51, Try.ntmps51
    go_wp2_with fail
    refine (sparse60 t none w c2).mono ?_
    rintro e w' ⟨rfl, rfl⟩
    go_wp2_with fail
    refine (bsearch61 ap 0 cp [] j _ hrow (by omega) hs).mono ?_
    rintro e w' ⟨k, ok, rfl, HK, HX, HO, hw⟩
    have hw2 := hw.symm; subst hw2
    obtain rfl : ok = false := by cases ok with | false => rfl | true => have := HO.1 rfl; simp at this
    clear HO HX
    go_wp2
    go_ret2
    exact ⟨rfl, .inr ⟨rfl, fun k => by simp⟩⟩
  · generalize hN : ps.length = N at hl hn hs hrow c0
    have HN := hid hN
    clear hN
    rw [← hl] at hnc c1
    have hN2 : N ≤ 1000000000 := by omega
    clear h hcm hl1 hl2 hblk hg hl
    go_enter Try.func51, Try.ntmps51
    go_wp2_with fail
    refine (sparse60 t none w c2).mono ?_
    rintro e w' ⟨rfl, rfl⟩
    go_wp2_with fail
    refine (bsearch61 ap N cp ps j _ hrow hN2 hs).mono ?_
    rintro e w' ⟨k, ok, rfl, HK, HX, HO, hw⟩
    have hw2 := hw.symm; subst hw2
    cases ok with
    | false =>
      have HF := hid HO
      clear HO
      go_wp2
      go_ret2
      refine ⟨rfl, .inr ⟨rfl, fun i e => ?_⟩⟩
      by_cases hik : i = k
      · subst hik; have := HF.out.2 e; cases this
      · rcases Nat.lt_or_ge i k with h1 | h1
        · have := (HX i j e).1 h1; omega
        · have hkl : k < ps.length := by have := (List.getElem?_eq_some_iff.1 e).1; omega
          have h2 := List.getElem?_eq_getElem hkl
          have h3 : ¬ ps[k] < j := fun h => by have := (HX k _ h2).2 h; omega
          have h4 := sasc_mono hs (show k < i by omega) (by have := (List.getElem?_eq_some_iff.1 e).1; rw [HN.out] at this; omega) h2 e
          omega
    | true =>
      have HT := hid (HO.1 rfl)
      have hkl : k < N := by have := (List.getElem?_eq_some_iff.1 HT.out).1; rw [HN.out] at this; omega
      clear HO HX HK
      go_wp2
      go_ret2
      exact ⟨rfl, .inl ⟨g, k, rfl, rfl, HT.out⟩⟩

end Go.Proofs.Qxb6600404a
