/-
  Seat b6600404a: slices.Insert(s, i, r) at run, i < len(s), without room; and the four roads together.
-/
import Derived.Test.Qxb6600404aInsert2
import Derived.Lib.JoinLaws
namespace Go.Proofs.Qxb6600404a
open Go.RowKit
set_option linter.unusedVariables false
set_option linter.unusedSimpArgs false

theorem splice_grow {X D zs : List Value} {i : Nat} {a b : Value} (hX : X.length = i * 2) (hz : 2 + D.length ≤ zs.length) :
    ∃ tl, splice (splice (X ++ zs) (i * 2) [a, b]) ((i + 1) * 2) D = (X ++ [a, b] ++ D) ++ tl ∧ 2 + D.length + tl.length = zs.length := by
  have e1 : splice (X ++ zs) (i * 2) [a, b] = X ++ ([a, b] ++ zs.drop 2) := by
    have h := splice_mid X (zs.take 2) (zs.drop 2) [a, b] (i * 2) hX (by rw [List.length_take]; simp; omega)
    rwa [List.take_append_drop] at h
  have e2 : X ++ ([a, b] ++ zs.drop 2) = (X ++ [a, b]) ++ ((zs.drop 2).take D.length ++ (zs.drop 2).drop D.length) := by rw [List.take_append_drop, List.append_assoc]
  refine ⟨(zs.drop 2).drop D.length, ?_, by rw [List.length_drop, List.length_drop]; omega⟩
  rw [e1, e2, splice_mid _ _ _ _ _ (by simp [hX]; omega) (by rw [List.length_take, List.length_drop]; omega), List.append_assoc (X ++ [a, b])]

/-- 'append(s[:i], make(S, k)...)' without room, as a block. -/
theorem run_zeros_blk (w : World) (g n cap i : Nat) (xs rest : List Value) (hi : i < n) (hnc : n ≤ cap) (hfull : cap < n + 1) (hn : n ≤ 1000000000) (hl : xs.length = n * 2) (hblk : Blk w g (xs ++ rest) 68) (ty : TypeId) :
    ∃ (G : Nat) (w1 : World) (zs : List Value), (Builtin.append_ #[64, 3] ty #[.slice (some ⟨g, 0, none⟩) i cap, .int .i64 ((n : Int) + 1 - (i : Int))]).run Try.prog w = .ok (.slice (some ⟨w.heap.size, 0, none⟩) (n + 1) G) w1 ∧
      n + 1 ≤ G ∧ G ≤ maxLen ∧ Blk w1 w.heap.size (xs.take (i * 2) ++ zs) 68 ∧ (xs.take (i * 2)).length + zs.length = G * 2 ∧ Below w.heap.size w w1 := by
  obtain ⟨i0, hi0, hz0, hz1, hz2⟩ := info_parts info68
  have hold : (Builtin.firstCells i0.size i (.slice (some ⟨g, 0, none⟩) i cap)).run Try.prog w.drew = .ok (xs.take (i * 2)).toArray w.drew := by
    rw [hz1]
    refine run_firstCells_some w.drew 2 i ⟨g, 0, none⟩ i cap (xs.take (i * 2)) (by rw [List.length_take]; omega) (fun j v hj => ?_)
    rw [Addr.add_lit, Nat.zero_add]
    rw [List.getElem?_take] at hj
    split at hj
    · rename_i hlt
      exact hblk.drew.cell (by rw [List.getElem?_append_left (by omega)]; exact hj)
    · cases hj
  have h := Lib.run_append_grow_zeros (P := Try.prog) w 64 3 ty 68 i0 _ .i64 .i64 Try.underlying64 Try.underlying3 hi0 hz0 (some ⟨g, 0, none⟩) i cap (xs.take (i * 2)) hold (n + 1 - i) (by omega) (by omega) (by omega) (by omega) (by rw [hz2]; omega) (by rw [hz2]; exact growslice_fits (by omega) (by omega))
  rw [show i + (n + 1 - i) = n + 1 by omega, show ((n + 1 - i : Nat) : Int) = (n : Int) + 1 - (i : Int) by omega] at h
  have hge := grownCap_ge w (n + 1) cap 68
  have hle := grownCap_le_maxLen w (n + 1) cap 68 (by unfold maxLen; omega)
  have hs1 := size_zeroCells (Value.agg #[Value.int .i64 0, .int .i64 0]).cells (n + 1 - i)
  have hs2 := size_zeroCells (Value.agg #[Value.int .i64 0, .int .i64 0]).cells (grownCap w (n + 1) cap 68 - (n + 1))
  generalize Builtin.zeroCells (Value.agg #[Value.int .i64 0, .int .i64 0]).cells (grownCap w (n + 1) cap 68 - (n + 1)) = Z2 at h hs2
  generalize Builtin.zeroCells (Value.agg #[Value.int .i64 0, .int .i64 0]).cells (n + 1 - i) = Z1 at h hs1
  generalize grownCap w (n + 1) cap 68 = G at h hs2 hge hle
  have hc : (Value.agg #[Value.int .i64 0, .int .i64 0]).cells.size = 2 := rfl
  rw [hc] at hs1 hs2
  refine ⟨G, _, Z1.toList ++ Z2.toList, h, hge, hle, ?_, ?_, (Below.refl _ _).drew.alloc (Nat.le_refl _) _⟩
  · have e : (xs.take (i * 2)).toArray ++ Z1 ++ Z2 = (xs.take (i * 2) ++ (Z1.toList ++ Z2.toList)).toArray := by
      apply Array.ext'
      simp
    rw [e]
    exact Blk.new w.drew _ 68
  · simp only [List.length_append, List.length_take, Array.length_toList, hs1, hs2]
    omega

set_option maxHeartbeats 2000000 in
set_option maxRecDepth 100000 in
theorem insert_grow (B vb g n cap i : Nat) (xs rest : List Value) (x y : Int) (w : World) (hB : B ≤ w.heap.size) (hi : i < n) (hnc : n ≤ cap) (hfull : cap < n + 1) (hn : n ≤ 1000000000) (hl : xs.length = n * 2) (hblk : Blk w g (xs ++ rest) 68) (h1 : ∀ u ∈ xs, u.oneCell' = true)
    (hv : Blk w vb [.int .i64 x, .int .i64 y] 68) :
    Calls Try.prog 59 #[.slice (some ⟨g, 0, none⟩) n cap, .int .i64 i, .slice (some ⟨vb, 0, none⟩) 1 1] w (Ins B (.slice (some ⟨g, 0, none⟩) n cap) (n + 1) (xs.take (i * 2) ++ [.int .i64 x, .int .i64 y] ++ xs.drop (i * 2)) w) := by
  obtain ⟨i0, hi0, hz0, hz1, hz2⟩ := info_parts info68
  obtain ⟨G, w1, zs, hr1, hG, hGm, hb1, hz, hbel⟩ := run_zeros_blk w g n cap i xs rest hi hnc hfull hn hl hblk 64
  unfold maxLen at hGm
  have hlt : g < w.heap.size := hblk.lt
  have hltv : vb < w.heap.size := hv.lt
  have ht : (xs.take (i * 2)).length = i * 2 := by rw [List.length_take]; omega
  have hd : (xs.drop (i * 2)).length = (n - i) * 2 := by rw [List.length_drop]; omega
  obtain ⟨w2, hr2, hb2, hf2⟩ := run_copy_blk (P := Try.prog) w1 64 64 3 68 i0 2 Try.underlying64 hi0 hz1 (some ⟨w.heap.size, i * 2, none⟩) (some ⟨vb, 0, none⟩) (n + 1 - i) (G - i) 1 1 w.heap.size (i * 2) _ 68 hb1 [.int .i64 x, .int .i64 y] (by rw [show Nat.min 1 (n + 1 - i) = 1 by show min _ _ = _; omega]; rfl) (fun _ => ⟨rfl, ⟨vb, 0, none⟩, rfl, two_cells (hv.keep hbel)⟩) (by omega) (by rw [List.length_append]; simp; omega) (two_one x y)
  obtain ⟨tl, htl, htl2⟩ := splice_grow (X := xs.take (i * 2)) (D := xs.drop (i * 2)) (zs := zs) (i := i) (a := .int .i64 x) (b := .int .i64 y) ht (by omega)
  have hblk2 : Blk w2 g (xs ++ rest) 68 := (hblk.keep hbel).fr hf2 (by omega)
  have c1 : Hid ((xs.drop (i * 2)).length = Nat.min (n - i) (n + 1 - (i + 1)) * 2) := by
    show _ = _
    rw [hd, show Nat.min (n - i) (n + 1 - (i + 1)) = n - i by show min _ _ = _; omega]
  have c2 : Hid (∀ w' : World, Blk w' g (xs ++ rest) 68 → ∀ j v, (xs.drop (i * 2))[j]? = some v → w'.cell? ((⟨g, i * 2, none⟩ : Addr).add j) = some v) := by
    intro w' hb j u hu
    have hj : j < xs.length - i * 2 := by
      have := (List.getElem?_eq_some_iff.1 hu).1
      simpa using this
    rw [Addr.add_lit]
    rw [List.getElem?_drop] at hu
    exact hb.cell (by rw [List.getElem?_append_left (by omega)]; exact hu)
  have c3 : Hid ((i + 1) * 2 + (xs.drop (i * 2)).length ≤ (splice (xs.take (i * 2) ++ zs) (i * 2) [.int .i64 x, .int .i64 y]).length) := by
    show _ ≤ _
    rw [length_splice _ _ _ (by rw [List.length_append]; simp; omega), List.length_append]; omega
  have c4 : Hid (∀ u ∈ xs.drop (i * 2), u.oneCell' = true) := fun u hu => h1 u (List.mem_of_mem_drop hu)
  have c7 : Hid (∀ w', Blk w' w.heap.size ((xs.take (i * 2) ++ [.int .i64 x, .int .i64 y] ++ xs.drop (i * 2)) ++ tl) 68 → w'.ownsRow B 68 2 (.slice (some ⟨w.heap.size, 0, none⟩) (n + 1) G) (n + 1) (xs.take (i * 2) ++ [.int .i64 x, .int .i64 y] ++ xs.drop (i * 2))) := by
    intro w' hb
    have hl3 : (xs.take (i * 2) ++ [Value.int .i64 x, .int .i64 y] ++ xs.drop (i * 2)).length = (n + 1) * 2 := by
      simp only [List.length_append, ht, hd, List.length_cons, List.length_nil]; omega
    exact ownsRow_mk hB hG (by unfold maxLen; omega) hl3 (by rw [hl3]; omega) hb
  have c8 : Hid (Below w.heap.size w w2) := hbel.trans (hf2.below hbel.size (by intro k hk; omega))
  have C5 := hid htl
  obtain ⟨X, hX⟩ : ∃ X, X = xs.drop (i * 2) := ⟨_, rfl⟩
  obtain ⟨Y, hY⟩ : ∃ Y, Y = xs ++ rest := ⟨_, rfl⟩
  obtain ⟨U, hU⟩ : ∃ U, U = splice (xs.take (i * 2) ++ zs) (i * 2) [.int .i64 x, .int .i64 y] := ⟨_, rfl⟩
  obtain ⟨Z, hZ⟩ : ∃ Z, Z = xs.take (i * 2) ++ [Value.int .i64 x, .int .i64 y] ++ xs.drop (i * 2) := ⟨_, rfl⟩
  rw [← hZ] at C5 c7 ⊢
  rw [← hX] at c1 c2 c3 c4 C5
  rw [← hY] at c2 hblk2
  rw [← hU] at C5 c3 hb2
  have HI := hid hi0
  have HZ1 := hid hz1
  have HR1 := hid hr1
  clear hX hY hZ hU hi0 hz0 hz1 hz2 hl h1 htl htl2 ht hd hz hblk hb1 hbel hf2 hv hr1
  have k1 : i ≤ cap := by omega
  have k2 : (0 : Int) ≤ (i : Int) + 1 := by omega
  have k3 : (i : Int) + 1 ≤ (n : Int) + 1 := by omega
  have k4 : ((i : Int) + 1).toNat = i + 1 := by omega
  have k5 : i ≤ n := by omega
  have k6 : ¬ G = i + 1 := by omega
  have k7 : ¬ cap = i := by omega
  have k7' : ¬ G = i := by omega
  have k8 : (i : Int) ≤ (n : Int) + 1 := by omega
  have k9 : IntKind.i64.wrap ((i : Int) + 1) = (i : Int) + 1 := by rw [IntKind.wrap_i64]; omega
  go_enter Try.func59, Try.ntmps59
  go_wp2_with (at_builtin; refine Lib.wpList_append_run _ rfl (.tmp 34) (.tmp 39) 64 3 rfl _ _ rfl rfl _ _ HR1.out ?_)
  go_region_law ((refine step_copy_blk rfl (.tmp 50) (.tmp 53) 64 64 rfl 68 i0 2 Try.underlying64 HI.out HZ1.out (some ⟨w.heap.size, (i + 1) * 2, none⟩) (some ⟨g, i * 2, none⟩) (n + 1 - (i + 1)) (G - (i + 1)) (n - i) (cap - i) (by simp [Act.eval, Act.put]) (by simp [Act.eval, Act.put]) w.heap.size ((i + 1) * 2) U 68 hb2.drew X c1.out (fun _ => ⟨rfl, ⟨g, i * 2, none⟩, rfl, c2.out _ hblk2.drew⟩) (by omega) c3.out c4.out ?_; intro w3 hb3 hf3))
  rw [C5.out] at hb3
  go_wp2
  go_ret
  have hb8 : Below w.heap.size w w3 := c8.out.drew.trans (hf3.below (by have := c8.out.size; simpa using this) (by intro k hk; omega))
  exact ⟨_, rfl, c7.out _ hb3, Fr.of_below hb8, .inr ⟨w.heap.size, rfl, Nat.le_refl _⟩⟩

/-- slices.Insert(s, i, r), whatever the road. -/
theorem insert59 (B vb i n : Nat) (v : Value) (xs : List Value) (x y : Int) (w : World) (hB : B ≤ w.heap.size) (hn : n ≤ 1000000000) (hi : i ≤ n) (hown : w.ownsRow B 68 2 v n xs) (h1 : ∀ u ∈ xs, u.oneCell' = true)
    (hv : Blk w vb [.int .i64 x, .int .i64 y] 68) (hne : v.ownBlock ≠ some vb) :
    Calls Try.prog 59 #[v, .int .i64 i, .slice (some ⟨vb, 0, none⟩) 1 1] w (Ins B v (n + 1) (xs.take (i * 2) ++ [.int .i64 x, .int .i64 y] ++ xs.drop (i * 2)) w) := by
  rcases ownsRow_form hown with ⟨rfl, rfl, rfl⟩ | ⟨g, cap, rest, rfl, hg, hnc, hcm, hl, hl2, hblk⟩
  · obtain rfl : i = 0 := by omega
    exact insert_end_nil B vb 1 x y w hB hv
  · by_cases he : i = n
    · subst he
      have e1 : xs.take (i * 2) = xs := List.take_of_length_le (by omega)
      have e2 : xs.drop (i * 2) = [] := List.drop_of_length_le (by omega)
      rw [e1, e2, List.append_nil]
      exact insert_end B vb 1 g i cap xs x y w hB hn hown hnc hcm hv
    · by_cases hroom : n + 1 ≤ cap
      · exact insert_shift B vb g n cap i xs rest x y w hg (by omega) hroom hcm hl hl2 hblk h1 hv (fun e => hne (by simp [Value.ownBlock, e]))
      · exact insert_grow B vb g n cap i xs rest x y w hB (by omega) hnc (by omega) hn hl hblk h1 hv

end Go.Proofs.Qxb6600404a
