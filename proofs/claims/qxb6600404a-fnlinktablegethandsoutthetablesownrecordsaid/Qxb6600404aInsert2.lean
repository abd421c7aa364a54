/-
  Seat b6600404a: slices.Insert(s, i, r) at run, i < len(s): with room, and without.
-/
import Derived.Test.Qxb6600404aInsert
namespace Go.Proofs.Qxb6600404a
open Go.RowKit
set_option linter.unusedVariables false
set_option linter.unusedSimpArgs false

theorem splice_insert {xs rest : List Value} {i : Nat} {a b : Value} (hi : i * 2 ≤ xs.length) (hr : 2 ≤ rest.length) :
    splice (splice (xs ++ rest) ((i + 1) * 2) (xs.drop (i * 2))) (i * 2) [a, b] = (xs.take (i * 2) ++ [a, b] ++ xs.drop (i * 2)) ++ rest.drop 2 := by
  have e1 : splice (xs ++ rest) ((i + 1) * 2) (xs.drop (i * 2)) = (xs ++ rest).take ((i + 1) * 2) ++ (xs.drop (i * 2) ++ rest.drop 2) := by
    have hd : (xs ++ rest).drop ((i + 1) * 2 + (xs.drop (i * 2)).length) = rest.drop 2 := by
      rw [List.length_drop, List.drop_append, List.drop_of_length_le (show xs.length ≤ (i + 1) * 2 + (xs.length - i * 2) by omega), show (i + 1) * 2 + (xs.length - i * 2) - xs.length = 2 by omega, List.nil_append]
    rw [splice, hd]
  have e2 : (xs ++ rest).take ((i + 1) * 2) = xs.take (i * 2) ++ ((xs ++ rest).drop (i * 2)).take 2 := by
    rw [show (i + 1) * 2 = i * 2 + 2 by omega, List.take_add, List.take_append_of_le_length hi]
  rw [e1, e2, List.append_assoc, splice_mid _ _ _ [a, b] _ (by rw [List.length_take]; omega) (by rw [List.length_take, List.length_drop, List.length_append]; simp; omega)]
  simp

set_option maxHeartbeats 2000000 in
set_option maxRecDepth 100000 in
theorem insert_shift (B vb g n cap i : Nat) (xs rest : List Value) (x y : Int) (w : World) (hB : B ≤ g) (hi : i < n) (hroom : n + 1 ≤ cap) (hcm : cap ≤ maxLen) (hl : xs.length = n * 2) (hl2 : xs.length + rest.length = cap * 2) (hblk : Blk w g (xs ++ rest) 68) (h1 : ∀ u ∈ xs, u.oneCell' = true)
    (hv : Blk w vb [.int .i64 x, .int .i64 y] 68) (hne : vb ≠ g) :
    Calls Try.prog 59 #[.slice (some ⟨g, 0, none⟩) n cap, .int .i64 i, .slice (some ⟨vb, 0, none⟩) 1 1] w (Ins B (.slice (some ⟨g, 0, none⟩) n cap) (n + 1) (xs.take (i * 2) ++ [.int .i64 x, .int .i64 y] ++ xs.drop (i * 2)) w) := by
  obtain ⟨i0, hi0, hz0, hz1, hz2⟩ := info_parts info68
  unfold maxLen at hcm
  have hsa : w.shape? vb = some (68, 2) := by
    have h : w.heap[vb]? = some (.cells [Value.int .i64 x, .int .i64 y].toArray 68 (0, 0)) := hv
    simp [World.shape?, h]
  have hsb : w.shape? g = some (68, cap * 2) := by
    have h : w.heap[g]? = some (.cells (xs ++ rest).toArray 68 (0, 0)) := hblk
    simp [World.shape?, h, ← hl2]
  have hz : ∀ w, (Go.sizeOf 68).run Try.prog w = .ok 2 w := fun w => by simp [Go.sizeOf, typeInfo, hi0, hz1]
  have hov : ∀ lb cb, (callFunc 67 #[.slice (some ⟨vb, 0, none⟩) 1 1, .slice (some ⟨g, (i + 1) * 2, none⟩) lb cb]).run Try.prog w = .ok (.value (.bool false)) w := fun lb cb => by
    rw [run_callFunc_extern Try.func67 (by kernel_rfl) (by kernel_rfl) (by kernel_rfl) (e := Extern.SlicesOverlaps.overlaps #[64, 64] #[4]) (by kernel_rfl),
      Lib.run_overlaps_apart w 64 4 68 Try.underlying64 2 hz ⟨vb, 0, none⟩ ⟨g, (i + 1) * 2, none⟩ 1 1 lb cb hne 68 68 2 (cap * 2) hsa hsb (by omega) (hv.free 0) (hv.free 2)]
    rfl
  have c1 : Hid ((xs.drop (i * 2)).length = Nat.min (n + 1 - i) (n + 1 - (i + 1)) * 2) := by
    show _ = _
    rw [List.length_drop, hl, show Nat.min (n + 1 - i) (n + 1 - (i + 1)) = n - i by show min _ _ = _; omega]; omega
  have c2 : Hid (∀ w' : World, Blk w' g (xs ++ rest) 68 → ∀ j v, (xs.drop (i * 2))[j]? = some v → w'.cell? ((⟨g, i * 2, none⟩ : Addr).add j) = some v) := by
    intro w' hb j u hu
    have hj : j < xs.length - i * 2 := by
      have := (List.getElem?_eq_some_iff.1 hu).1
      simpa using this
    rw [Addr.add_lit]
    rw [List.getElem?_drop] at hu
    exact hb.cell (by rw [List.getElem?_append_left (by omega)]; exact hu)
  have c3 : Hid ((i + 1) * 2 + (xs.drop (i * 2)).length ≤ (xs ++ rest).length) := by
    show _ ≤ _
    rw [List.length_drop, List.length_append]; omega
  have c4 : Hid (∀ u ∈ xs.drop (i * 2), u.oneCell' = true) := fun u hu => h1 u (List.mem_of_mem_drop hu)
  have c5 : Hid (splice (splice (xs ++ rest) ((i + 1) * 2) (xs.drop (i * 2))) (i * 2) [.int .i64 x, .int .i64 y] = (xs.take (i * 2) ++ [.int .i64 x, .int .i64 y] ++ xs.drop (i * 2)) ++ rest.drop 2) := splice_insert (by omega) (by omega)
  have c6 : Hid (i * 2 + 2 ≤ (splice (xs ++ rest) ((i + 1) * 2) (xs.drop (i * 2))).length) := by
    show _ ≤ _
    rw [length_splice _ _ _ c3.out, List.length_append]; omega
  have c7 : Hid (∀ w', Blk w' g ((xs.take (i * 2) ++ [.int .i64 x, .int .i64 y] ++ xs.drop (i * 2)) ++ rest.drop 2) 68 → w'.ownsRow B 68 2 (.slice (some ⟨g, 0, none⟩) (n + 1) cap) (n + 1) (xs.take (i * 2) ++ [.int .i64 x, .int .i64 y] ++ xs.drop (i * 2))) := by
    intro w' hb
    have hl3 : (xs.take (i * 2) ++ [Value.int .i64 x, .int .i64 y] ++ xs.drop (i * 2)).length = (n + 1) * 2 := by
      simp only [List.length_append, List.length_take, List.length_drop, List.length_cons, List.length_nil]; omega
    exact ownsRow_mk hB hroom (by unfold maxLen; omega) hl3 (by rw [hl3, List.length_drop]; omega) hb
  obtain ⟨X, hX⟩ : ∃ X, X = xs.drop (i * 2) := ⟨_, rfl⟩
  obtain ⟨Y, hY⟩ : ∃ Y, Y = xs ++ rest := ⟨_, rfl⟩
  obtain ⟨Z, hZ⟩ : ∃ Z, Z = xs.take (i * 2) ++ [Value.int .i64 x, .int .i64 y] ++ xs.drop (i * 2) := ⟨_, rfl⟩
  rw [← hZ] at c5 c7 ⊢
  rw [← hX] at c1 c2 c3 c4 c5 c6
  rw [← hY] at c2 c3 c5 c6 hblk
  have HI := hid hi0
  have HZ1 := hid hz1
  clear hX hY hZ hi0 hz0 hz1 hz2 hsa hsb hz hl hl2 h1
  have k1 : i ≤ cap := by omega
  have k2 : (0 : Int) ≤ (i : Int) + 1 := by omega
  have k3 : (i : Int) + 1 ≤ (n : Int) + 1 := by omega
  have k4 : ((i : Int) + 1).toNat = i + 1 := by omega
  have k5 : i ≤ n := by omega
  have k6 : ¬ cap = i + 1 := by omega
  have k7 : ¬ cap = i := by omega
  have k8 : (i : Int) ≤ (n : Int) + 1 := by omega
  have k9 : IntKind.i64.wrap ((i : Int) + 1) = (i : Int) + 1 := by rw [IntKind.wrap_i64]; omega
  go_enter Try.func59, Try.ntmps59
  go_wp2_with (simp only [hov])
  go_region_law ((refine step_copy_blk rfl (.tmp 73) (.tmp 76) 64 64 rfl 68 i0 2 Try.underlying64 HI.out HZ1.out (some ⟨g, (i + 1) * 2, none⟩) (some ⟨g, i * 2, none⟩) (n + 1 - (i + 1)) (cap - (i + 1)) (n + 1 - i) (cap - i) (by simp [Act.eval, Act.put]) (by simp [Act.eval, Act.put]) g ((i + 1) * 2) Y 68 hblk.drew X c1.out (fun _ => ⟨rfl, ⟨g, i * 2, none⟩, rfl, c2.out _ hblk.drew⟩) (by omega) c3.out c4.out ?_; intro w1 hb1 hf1))
  have hv1 : Blk w1 vb [.int .i64 x, .int .i64 y] 68 := hv.drew.fr hf1 hne
  obtain ⟨w2, hr2, hb2, hf2⟩ := run_copy_blk (P := Try.prog) w1 64 64 3 68 i0 2 Try.underlying64 HI.out HZ1.out (some ⟨g, i * 2, none⟩) (some ⟨vb, 0, none⟩) (n + 1 - i) (cap - i) 1 1 g (i * 2) _ 68 hb1 [.int .i64 x, .int .i64 y] (by rw [show Nat.min 1 (n + 1 - i) = 1 by show min _ _ = _; omega]; rfl) (fun _ => ⟨rfl, ⟨vb, 0, none⟩, rfl, two_cells hv1⟩) (by omega) c6.out (two_one x y)
  rw [c5.out] at hb2
  go_wp2
  go_ret
  exact ⟨_, rfl, c7.out _ hb2, (Fr.trans (b := w1) ⟨hf1.os, hf1.tape, hf1.output, hf1.size, fun k hk hm => hf1.block k hk (fun e => hm (by simp [Value.ownBlock, e]))⟩ ⟨hf2.os, hf2.tape, hf2.output, hf2.size, fun k hk hm => hf2.block k hk (fun e => hm (by simp [Value.ownBlock, e]))⟩), .inl rfl⟩

end Go.Proofs.Qxb6600404a
