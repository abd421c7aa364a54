/-
  Seat b6600404a: slices.Insert(s, i, r) at run.
-/
import Derived.Test.Qxb6600404aDelete
import Derived.Maps.AppendAt
import Derived.Lib.AppendZerosOnto
import Derived.Lib.Overlaps
namespace Go.Proofs.Qxb6600404a
open Go.RowKit
set_option linter.unusedVariables false
set_option linter.unusedSimpArgs false

/-- What an insertion leaves: the row at 'v'' owns the new list; only v's own row may have been turned; v' lies there or in new memory. -/
def Ins (B : Nat) (v : Value) (n : Nat) (ys : List Value) (w : World) (e : Ending) (w' : World) : Prop :=
  ∃ v', e = .returned v' ∧ w'.ownsRow B 68 2 v' n ys ∧ Fr (fun k => v.ownBlock = some k) w w' ∧ (v'.ownBlock = v.ownBlock ∨ ∃ g, v'.ownBlock = some g ∧ w.heap.size ≤ g)

theorem two_cells {w : World} {vb : Nat} {x y : Int} (hv : Blk w vb [.int .i64 x, .int .i64 y] 68) : ∀ j u, [Value.int .i64 x, .int .i64 y][j]? = some u → w.cell? ((⟨vb, 0, none⟩ : Addr).add j) = some u := by
  intro j u hj
  rw [Addr.add_lit, Nat.zero_add]
  exact hv.cell hj
theorem two_one (x y : Int) : ∀ u ∈ [Value.int .i64 x, .int .i64 y], u.oneCell' = true := by
  intro u hu
  simp at hu
  rcases hu with rfl | rfl <;> rfl
theorem at_new {v v' : Value} {w : World} (h : v'.ownBlock = v.ownBlock ∨ v'.ownBlock = some w.heap.size) : v'.ownBlock = v.ownBlock ∨ ∃ g, v'.ownBlock = some g ∧ w.heap.size ≤ g := by
  rcases h with h | h
  · exact .inl h
  · exact .inr ⟨_, h, Nat.le_refl _⟩

set_option maxHeartbeats 1000000 in
set_option maxRecDepth 100000 in
theorem insert_end_nil (B vb vc : Nat) (x y : Int) (w : World) (hB : B ≤ w.heap.size) (hv : Blk w vb [.int .i64 x, .int .i64 y] 68) :
    Calls Try.prog 59 #[.slice none 0 0, .int .i64 0, .slice (some ⟨vb, 0, none⟩) 1 vc] w (Ins B (.slice none 0 0) 1 [.int .i64 x, .int .i64 y] w) := by
  obtain ⟨i0, hi0, hz0, hz1, hz2⟩ := info_parts info68
  have HI := hid hi0
  have HZ0 := hid hz0
  have HZ1 := hid hz1
  have HZ2 := hid hz2
  clear hi0 hz0 hz1 hz2
  go_enter Try.func59, Try.ntmps59
  go_wp2_with (at_builtin; refine wpList_append_own_at _ rfl (.tmp 23) (.tmp 24) 64 rfl B 68 i0 (.agg #[.int .i64 0, .int .i64 0]) 2 16 Try.underlying64 HI.out HZ0.out HZ1.out HZ2.out rfl (by omega) (.slice none 0 0) 0 [] rfl (World.ownsRow_nil _ _ _ _) ⟨vb, 0, none⟩ 1 _ [.int .i64 x, .int .i64 y] rfl rfl ?h1 ?h2 ?h3 ?h4 ?h5 ?_)
  case h1 => exact two_cells hv
  case h2 => exact two_one x y
  case h3 => unfold maxLen; omega
  case h4 => omega
  case h5 => exact hB
  intro v' w1 hown hgrow hnn hat
  go_wp2
  go_ret
  exact ⟨v', rfl, hown, Fr.of_grown hgrow (fun k h => h), at_new hat⟩

set_option maxHeartbeats 1000000 in
set_option maxRecDepth 100000 in
theorem insert_end (B vb vc g n cap : Nat) (xs : List Value) (x y : Int) (w : World) (hB : B ≤ w.heap.size) (hn : n ≤ 1000000000) (hown : w.ownsRow B 68 2 (.slice (some ⟨g, 0, none⟩) n cap) n xs) (hnc : n ≤ cap) (hcm : cap ≤ maxLen) (hv : Blk w vb [.int .i64 x, .int .i64 y] 68) :
    Calls Try.prog 59 #[.slice (some ⟨g, 0, none⟩) n cap, .int .i64 n, .slice (some ⟨vb, 0, none⟩) 1 vc] w (Ins B (.slice (some ⟨g, 0, none⟩) n cap) (n + 1) (xs ++ [.int .i64 x, .int .i64 y]) w) := by
  obtain ⟨i0, hi0, hz0, hz1, hz2⟩ := info_parts info68
  have HI := hid hi0
  have HZ0 := hid hz0
  have HZ1 := hid hz1
  have HZ2 := hid hz2
  clear hi0 hz0 hz1 hz2
  unfold maxLen at hcm
  go_enter Try.func59, Try.ntmps59
  go_wp2_with (at_builtin; refine wpList_append_own_at _ rfl (.tmp 23) (.tmp 24) 64 rfl B 68 i0 (.agg #[.int .i64 0, .int .i64 0]) 2 16 Try.underlying64 HI.out HZ0.out HZ1.out HZ2.out rfl (by omega) _ n xs rfl hown ⟨vb, 0, none⟩ 1 _ [.int .i64 x, .int .i64 y] rfl rfl (two_cells hv) (two_one x y) (by unfold maxLen; omega) (by omega) hB ?_)
  all_goals
    intro v' w1 hown hgrow hnn hat
    go_wp2
    go_ret
    exact ⟨v', rfl, hown, Fr.of_grown hgrow (fun k h => h), at_new hat⟩

end Go.Proofs.Qxb6600404a
