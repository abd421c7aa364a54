/-
  Seat b6600404a: slices.Delete(s, i, i+1) at run, int and link (three texts out of one, by program).
-/
import Derived.Test.Qxb6600404aLaws
import Derived.Test.Qxb6600404aFind
namespace Go.Proofs.Qxb6600404a
open Go.RowKit
set_option linter.unusedVariables false
set_option linter.unusedSimpArgs false

theorem info68 : (Try.prog.info? 68).map (fun i => (i.zero, i.size, i.bytes)) = some (some (.agg #[.int .i64 0, .int .i64 0]), 2, 16) := by kernel_rfl
theorem info3 : (Try.prog.info? 3).map (fun i => (i.zero, i.size, i.bytes)) = some (some (.int .i64 0), 1, 8) := by kernel_rfl
/-- The cells of a link all zero but for its seq. -/
def linkC (t : Int) : List Value := [.float .f64 0, .float .f64 0, .float .f64 0, .float .f64 0, .float .f64 0, .float .f64 0, .float .f64 0, .float .f64 0, .float .f64 0, .float .f64 0, .int .u32 0, .int .u8 0, .int .u8 0, .int .u8 t, .int .u8 0, .int .u8 0, .int .u8 0, .bool false, .bool false]
theorem info83 : (Try.prog.info? 83).map (fun i => (i.zero, i.size, i.bytes)) = some (some (.agg (linkC 0).toArray), 19, 96) := by kernel_rfl

theorem splice_mid {α : Type} (A M C Z : List α) (o : Nat) (hA : A.length = o) (hM : M.length = Z.length) : splice (A ++ (M ++ C)) o Z = A ++ (Z ++ C) := by
  subst hA
  have e : (A ++ (M ++ C)).drop (A.length + Z.length) = C := by
    rw [← List.append_assoc, List.drop_append_of_le_length (by simp; omega), List.drop_of_length_le (by simp; omega)]; simp
  simp only [splice, e]
  simp

theorem splice_delete {xs rest Z : List Value} {n i k : Nat} (hl : xs.length = n * k) (hZ : Z.length = k) (hi : i < n) :
    splice (splice (xs ++ rest) (i * k) (xs.drop ((i + 1) * k))) ((i + (n - (i + 1))) * k) Z = (xs.take (i * k) ++ xs.drop ((i + 1) * k)) ++ (Z ++ rest) := by
  have e1 : (i + 1) * k = i * k + k := by rw [Nat.add_mul, Nat.one_mul]
  have e2 : n * k = i * k + k + (n - (i + 1)) * k := by
    rw [← e1, ← Nat.add_mul]; congr 1; omega
  have e3 : (i + (n - (i + 1))) * k = i * k + (n - (i + 1)) * k := Nat.add_mul _ _ _
  have hX : (xs.drop ((i + 1) * k)).length = (n - (i + 1)) * k := by rw [List.length_drop]; omega
  have s1 : xs ++ rest = xs.take (i * k) ++ ((xs.drop (i * k)).take ((n - (i + 1)) * k) ++ ((xs.drop (i * k)).drop ((n - (i + 1)) * k) ++ rest)) := by
    have h1 := List.take_append_drop ((n - (i + 1)) * k) (xs.drop (i * k))
    have h2 := List.take_append_drop (i * k) xs
    rw [← List.append_assoc (List.take ((n - (i + 1)) * k) _), h1, ← List.append_assoc, h2]
  have l1 : (xs.take (i * k)).length = i * k := by rw [List.length_take]; omega
  have l2 : ((xs.drop (i * k)).take ((n - (i + 1)) * k)).length = (xs.drop ((i + 1) * k)).length := by rw [hX, List.length_take, List.length_drop]; omega
  rw [s1, splice_mid _ _ _ _ _ l1 l2, ← List.append_assoc (List.take (i * k) xs), splice_mid _ _ _ _ _ (by rw [List.length_append, l1, hX, e3]) (by rw [List.length_drop, List.length_drop, hZ]; omega)]


set_option maxHeartbeats 1000000 in
set_option maxRecDepth 100000 in
theorem delete58 (B g n cap i : Nat) (xs rest : List Value) (w : World) (hB : B ≤ g) (hi : i < n) (hnc : n ≤ cap) (hcm : cap ≤ maxLen) (hl : xs.length = n * 2) (hl2 : xs.length + rest.length = cap * 2) (hblk : Blk w g (xs ++ rest) 68) (h1 : ∀ u ∈ xs, u.oneCell' = true) :
    Calls Try.prog 58 #[.slice (some ⟨g, 0, none⟩) n cap, .int .i64 i, .int .i64 (i + 1)] w fun e w' => e = .returned (.slice (some ⟨g, 0, none⟩) (n - 1) cap) ∧ w'.ownsRow B 68 2 (.slice (some ⟨g, 0, none⟩) (n - 1) cap) (n - 1) (xs.take (i * 2) ++ xs.drop ((i + 1) * 2)) ∧ Fr (fun k => k = g) w w' := by
  obtain ⟨i0, hi0, hz0, hz1, hz2⟩ := info_parts info68
  obtain ⟨A, hA, HA⟩ : ∃ A : Addr, (if cap = i + 1 then some (⟨g, 0, none⟩ : Addr) else some ⟨g, (i + 1) * 2, none⟩) = some A ∧ Hid (¬ cap = i + 1 → A = ⟨g, (i + 1) * 2, none⟩) := by
    by_cases h : cap = i + 1
    · exact ⟨⟨g, 0, none⟩, by simp [h], fun h' => absurd h h'⟩
    · exact ⟨⟨g, (i + 1) * 2, none⟩, by simp [h], fun _ => rfl⟩
  have s1 : Hid ((xs.drop ((i + 1) * 2)).length = (n - (i + 1)) * 2) := by
    show _ = _
    rw [List.length_drop, hl]; omega
  have s2 : Hid (∀ w' : World, Blk w' g (xs ++ rest) 68 → ∀ a, some A = some a → ∀ j u, (xs.drop ((i + 1) * 2))[j]? = some u → w'.cell? (a.add j) = some u) := by
    intro w' hb a ha j u hu
    obtain rfl := Option.some.inj ha
    have hj : j < xs.length - (i + 1) * 2 := by
      have := (List.getElem?_eq_some_iff.1 hu).1
      simpa using this
    have hne : ¬ cap = i + 1 := by omega
    rw [HA hne, Addr.add_lit]
    rw [List.getElem?_drop] at hu
    exact hb.cell (by rw [List.getElem?_append_left (by omega)]; exact hu)
  have s3 : Hid (∀ u ∈ xs.drop ((i + 1) * 2), u.oneCell' = true) := fun u hu => h1 u (List.mem_of_mem_drop hu)
  have s4 : Hid (i * 2 + (xs.drop ((i + 1) * 2)).length ≤ (xs ++ rest).length) := by
    show _ ≤ _
    rw [List.length_drop, List.length_append, hl]; omega
  obtain ⟨X, hX⟩ : ∃ X, X = xs.drop ((i + 1) * 2) := ⟨_, rfl⟩
  rw [← hX] at s1 s2 s3 s4
  obtain ⟨Y, hY⟩ : ∃ Y, Y = xs ++ rest := ⟨_, rfl⟩
  rw [← hY] at s2 s4 hblk
  have HL := hid hl
  have HL2 := hid hl2
  have HI := hid hi0
  have HZ0 := hid hz0
  have HZ1 := hid hz1
  have HX := hid hX
  have HY := hid hY
  unfold maxLen at hcm
  clear hl hl2 hi0 hz0 hz1 hz2 HA hX hY h1
  have k1 : i ≤ cap := by omega
  have k2 : (0 : Int) ≤ (i : Int) + 1 := by omega
  have k3 : (i : Int) + 1 ≤ (n : Int) := by omega
  have k4 : ((i : Int) + 1).toNat = i + 1 := by omega
  have k5 : i + 1 ≤ n := by omega
  go_enter Try.func58, Try.ntmps58
  go_wp2_with fail
  go_region_law ((refine step_append_blk rfl (.tmp 22) (.tmp 25) 64 rfl 68 i0 2 Try.underlying64 HI.out HZ1.out g i cap Y (by simp [Act.eval, Act.put]) hblk.drew (some A) (n - (i + 1)) (cap - (i + 1)) X (by simp [Act.eval, Act.put]) s1.out (fun h => by cases h) (s2.out _ hblk.drew) s3.out (by omega) s4.out ?_; intro w1 hb1 hf1))
  have k6 : i + (n - (i + 1)) < n := by omega
  have k7 : ¬ cap = i + (n - (i + 1)) := by omega
  have hlen1 : (i + (n - (i + 1))) * 2 + (n - (i + (n - (i + 1)))) * 2 ≤ (splice Y (i * 2) X).length := by
    have e1 := HY.out; have e2 := HL2.out; have e3 := HL.out; have e4 := s1.out
    rw [length_splice _ _ _ s4.out, e1, List.length_append]; omega
  obtain ⟨w2, hr2, hb2, hf2⟩ := run_clear_blk (P := Try.prog) w1 64 68 0 i0 (.agg #[.int .i64 0, .int .i64 0]) [.int .i64 0, .int .i64 0] 2 Try.underlying64 HI.out HZ0.out rfl rfl g ((i + (n - (i + 1))) * 2) (n - (i + (n - (i + 1)))) (cap - (i + (n - (i + 1)))) _ 68 hb1 (by omega) hlen1 (by decide) (by omega)
  clear hlen1
  go_wp2
  go_ret
  have hs := splice_delete (xs := xs) (rest := rest) (Z := (Builtin.zeroCells ([.int .i64 0, .int .i64 0] : List Value).toArray 1).toList) HL.out (by simp [Builtin.zeroCells, linkC]) hi
  have e9 : n - (i + (n - (i + 1))) = 1 := by omega
  have e8 : i + (n - (i + 1)) = n - 1 := by omega
  rw [e9, HX.out, HY.out, hs] at hb2
  refine ⟨by show Ending.returned (.slice (some ⟨g, 0, none⟩) (i + (n - (i + 1))) cap) = _; rw [e8], ?_, (Fr.trans (b := w1) ⟨hf1.os, hf1.tape, hf1.output, hf1.size, hf1.block⟩ hf2)⟩
  have hl3 : (xs.take (i * 2) ++ xs.drop ((i + 1) * 2)).length = (n - 1) * 2 := by
    have e3 := HL.out
    rw [List.length_append, List.length_take, List.length_drop]; omega
  refine ownsRow_mk hB (by omega) (by unfold maxLen; omega) hl3 ?_ hb2
  have e2 := HL2.out; have e3 := HL.out
  rw [hl3, List.length_append, show ((Builtin.zeroCells ([.int .i64 0, .int .i64 0] : List Value).toArray 1).toList).length = 2 by simp [Builtin.zeroCells, linkC]]; omega

set_option maxHeartbeats 1000000 in
set_option maxRecDepth 100000 in
theorem delete63 (B g n cap i : Nat) (xs rest : List Value) (w : World) (hB : B ≤ g) (hi : i < n) (hnc : n ≤ cap) (hcm : cap ≤ maxLen) (hl : xs.length = n * 1) (hl2 : xs.length + rest.length = cap * 1) (hblk : Blk w g (xs ++ rest) 3) (h1 : ∀ u ∈ xs, u.oneCell' = true) :
    Calls Try.prog 63 #[.slice (some ⟨g, 0, none⟩) n cap, .int .i64 i, .int .i64 (i + 1)] w fun e w' => e = .returned (.slice (some ⟨g, 0, none⟩) (n - 1) cap) ∧ w'.ownsRow B 3 1 (.slice (some ⟨g, 0, none⟩) (n - 1) cap) (n - 1) (xs.take (i * 1) ++ xs.drop ((i + 1) * 1)) ∧ Fr (fun k => k = g) w w' := by
  obtain ⟨i0, hi0, hz0, hz1, hz2⟩ := info_parts info3
  obtain ⟨A, hA, HA⟩ : ∃ A : Addr, (if cap = i + 1 then some (⟨g, 0, none⟩ : Addr) else some ⟨g, (i + 1), none⟩) = some A ∧ Hid (¬ cap = i + 1 → A = ⟨g, (i + 1), none⟩) := by
    by_cases h : cap = i + 1
    · exact ⟨⟨g, 0, none⟩, by simp [h], fun h' => absurd h h'⟩
    · exact ⟨⟨g, (i + 1), none⟩, by simp [h], fun _ => rfl⟩
  have s1 : Hid ((xs.drop ((i + 1) * 1)).length = (n - (i + 1)) * 1) := by
    show _ = _
    rw [List.length_drop, hl]; omega
  have s2 : Hid (∀ w' : World, Blk w' g (xs ++ rest) 3 → ∀ a, some A = some a → ∀ j u, (xs.drop ((i + 1) * 1))[j]? = some u → w'.cell? (a.add j) = some u) := by
    intro w' hb a ha j u hu
    obtain rfl := Option.some.inj ha
    have hj : j < xs.length - (i + 1) * 1 := by
      have := (List.getElem?_eq_some_iff.1 hu).1
      simpa using this
    have hne : ¬ cap = i + 1 := by omega
    rw [HA hne, Addr.add_lit]
    rw [List.getElem?_drop] at hu
    exact hb.cell (by rw [List.getElem?_append_left (by omega)]; simpa using hu)
  have s3 : Hid (∀ u ∈ xs.drop ((i + 1) * 1), u.oneCell' = true) := fun u hu => h1 u (List.mem_of_mem_drop hu)
  have s4 : Hid (i * 1 + (xs.drop ((i + 1) * 1)).length ≤ (xs ++ rest).length) := by
    show _ ≤ _
    rw [List.length_drop, List.length_append, hl]; omega
  obtain ⟨X, hX⟩ : ∃ X, X = xs.drop ((i + 1) * 1) := ⟨_, rfl⟩
  rw [← hX] at s1 s2 s3 s4
  obtain ⟨Y, hY⟩ : ∃ Y, Y = xs ++ rest := ⟨_, rfl⟩
  rw [← hY] at s2 s4 hblk
  have HL := hid hl
  have HL2 := hid hl2
  have HI := hid hi0
  have HZ0 := hid hz0
  have HZ1 := hid hz1
  have HX := hid hX
  have HY := hid hY
  unfold maxLen at hcm
  clear hl hl2 hi0 hz0 hz1 hz2 HA hX hY h1
  have k1 : i ≤ cap := by omega
  have k2 : (0 : Int) ≤ (i : Int) + 1 := by omega
  have k3 : (i : Int) + 1 ≤ (n : Int) := by omega
  have k4 : ((i : Int) + 1).toNat = i + 1 := by omega
  have k5 : i + 1 ≤ n := by omega
  go_enter Try.func63, Try.ntmps63
  go_wp2_with fail
  go_region_law ((refine step_append_blk rfl (.tmp 22) (.tmp 25) 22 rfl 3 i0 1 Try.underlying22 HI.out HZ1.out g i cap Y (by simp [Act.eval, Act.put]) hblk.drew (some A) (n - (i + 1)) (cap - (i + 1)) X (by simp [Act.eval, Act.put]) s1.out (fun h => by cases h) (s2.out _ hblk.drew) s3.out (by omega) s4.out ?_; intro w1 hb1 hf1))
  have k6 : i + (n - (i + 1)) < n := by omega
  have k7 : ¬ cap = i + (n - (i + 1)) := by omega
  have hlen1 : (i + (n - (i + 1))) + (n - (i + (n - (i + 1)))) * 1 ≤ (splice Y (i * 1) X).length := by
    have e1 := HY.out; have e2 := HL2.out; have e3 := HL.out; have e4 := s1.out
    rw [length_splice _ _ _ s4.out, e1, List.length_append]; omega
  obtain ⟨w2, hr2, hb2, hf2⟩ := run_clear_blk (P := Try.prog) w1 22 3 0 i0 (.int .i64 0) [.int .i64 0] 1 Try.underlying22 HI.out HZ0.out rfl rfl g ((i + (n - (i + 1)))) (n - (i + (n - (i + 1)))) (cap - (i + (n - (i + 1)))) _ 3 hb1 (by omega) hlen1 (by decide) (by omega)
  clear hlen1
  go_wp2
  go_ret
  have hs := splice_delete (xs := xs) (rest := rest) (Z := (Builtin.zeroCells ([.int .i64 0] : List Value).toArray 1).toList) HL.out (by simp [Builtin.zeroCells, linkC]) hi
  have e9 : n - (i + (n - (i + 1))) = 1 := by omega
  have e8 : i + (n - (i + 1)) = n - 1 := by omega
  rw [e9, HX.out, HY.out, show i + (n - (i + 1)) = (i + (n - (i + 1))) * 1 by omega, hs] at hb2
  refine ⟨by show Ending.returned (.slice (some ⟨g, 0, none⟩) (i + (n - (i + 1))) cap) = _; rw [e8], ?_, (Fr.trans (b := w1) ⟨hf1.os, hf1.tape, hf1.output, hf1.size, hf1.block⟩ hf2)⟩
  have hl3 : (xs.take (i * 1) ++ xs.drop ((i + 1) * 1)).length = (n - 1) * 1 := by
    have e3 := HL.out
    rw [List.length_append, List.length_take, List.length_drop]; omega
  refine ownsRow_mk hB (by omega) (by unfold maxLen; omega) hl3 ?_ hb2
  have e2 := HL2.out; have e3 := HL.out
  rw [hl3, List.length_append, show ((Builtin.zeroCells ([.int .i64 0] : List Value).toArray 1).toList).length = 1 by simp [Builtin.zeroCells, linkC]]; omega

set_option maxHeartbeats 1000000 in
set_option maxRecDepth 100000 in
theorem delete64 (B g n cap i : Nat) (xs rest : List Value) (w : World) (hB : B ≤ g) (hi : i < n) (hnc : n ≤ cap) (hcm : cap ≤ maxLen) (hl : xs.length = n * 19) (hl2 : xs.length + rest.length = cap * 19) (hblk : Blk w g (xs ++ rest) 83) (h1 : ∀ u ∈ xs, u.oneCell' = true) :
    Calls Try.prog 64 #[.slice (some ⟨g, 0, none⟩) n cap, .int .i64 i, .int .i64 (i + 1)] w fun e w' => e = .returned (.slice (some ⟨g, 0, none⟩) (n - 1) cap) ∧ w'.ownsRow B 83 19 (.slice (some ⟨g, 0, none⟩) (n - 1) cap) (n - 1) (xs.take (i * 19) ++ xs.drop ((i + 1) * 19)) ∧ Fr (fun k => k = g) w w' := by
  obtain ⟨i0, hi0, hz0, hz1, hz2⟩ := info_parts info83
  obtain ⟨A, hA, HA⟩ : ∃ A : Addr, (if cap = i + 1 then some (⟨g, 0, none⟩ : Addr) else some ⟨g, (i + 1) * 19, none⟩) = some A ∧ Hid (¬ cap = i + 1 → A = ⟨g, (i + 1) * 19, none⟩) := by
    by_cases h : cap = i + 1
    · exact ⟨⟨g, 0, none⟩, by simp [h], fun h' => absurd h h'⟩
    · exact ⟨⟨g, (i + 1) * 19, none⟩, by simp [h], fun _ => rfl⟩
  have s1 : Hid ((xs.drop ((i + 1) * 19)).length = (n - (i + 1)) * 19) := by
    show _ = _
    rw [List.length_drop, hl]; omega
  have s2 : Hid (∀ w' : World, Blk w' g (xs ++ rest) 83 → ∀ a, some A = some a → ∀ j u, (xs.drop ((i + 1) * 19))[j]? = some u → w'.cell? (a.add j) = some u) := by
    intro w' hb a ha j u hu
    obtain rfl := Option.some.inj ha
    have hj : j < xs.length - (i + 1) * 19 := by
      have := (List.getElem?_eq_some_iff.1 hu).1
      simpa using this
    have hne : ¬ cap = i + 1 := by omega
    rw [HA hne, Addr.add_lit]
    rw [List.getElem?_drop] at hu
    exact hb.cell (by rw [List.getElem?_append_left (by omega)]; exact hu)
  have s3 : Hid (∀ u ∈ xs.drop ((i + 1) * 19), u.oneCell' = true) := fun u hu => h1 u (List.mem_of_mem_drop hu)
  have s4 : Hid (i * 19 + (xs.drop ((i + 1) * 19)).length ≤ (xs ++ rest).length) := by
    show _ ≤ _
    rw [List.length_drop, List.length_append, hl]; omega
  obtain ⟨X, hX⟩ : ∃ X, X = xs.drop ((i + 1) * 19) := ⟨_, rfl⟩
  rw [← hX] at s1 s2 s3 s4
  obtain ⟨Y, hY⟩ : ∃ Y, Y = xs ++ rest := ⟨_, rfl⟩
  rw [← hY] at s2 s4 hblk
  have HL := hid hl
  have HL2 := hid hl2
  have HI := hid hi0
  have HZ0 := hid hz0
  have HZ1 := hid hz1
  have HX := hid hX
  have HY := hid hY
  unfold maxLen at hcm
  clear hl hl2 hi0 hz0 hz1 hz2 HA hX hY h1
  have k1 : i ≤ cap := by omega
  have k2 : (0 : Int) ≤ (i : Int) + 1 := by omega
  have k3 : (i : Int) + 1 ≤ (n : Int) := by omega
  have k4 : ((i : Int) + 1).toNat = i + 1 := by omega
  have k5 : i + 1 ≤ n := by omega
  go_enter Try.func64, Try.ntmps64
  go_wp2_with fail
  go_region_law ((refine step_append_blk rfl (.tmp 22) (.tmp 25) 70 rfl 83 i0 19 Try.underlying70 HI.out HZ1.out g i cap Y (by simp [Act.eval, Act.put]) hblk.drew (some A) (n - (i + 1)) (cap - (i + 1)) X (by simp [Act.eval, Act.put]) s1.out (fun h => by cases h) (s2.out _ hblk.drew) s3.out (by omega) s4.out ?_; intro w1 hb1 hf1))
  have k6 : i + (n - (i + 1)) < n := by omega
  have k7 : ¬ cap = i + (n - (i + 1)) := by omega
  have hlen1 : (i + (n - (i + 1))) * 19 + (n - (i + (n - (i + 1)))) * 19 ≤ (splice Y (i * 19) X).length := by
    have e1 := HY.out; have e2 := HL2.out; have e3 := HL.out; have e4 := s1.out
    rw [length_splice _ _ _ s4.out, e1, List.length_append]; omega
  obtain ⟨w2, hr2, hb2, hf2⟩ := run_clear_blk (P := Try.prog) w1 70 83 0 i0 (.agg (linkC 0).toArray) (linkC 0) 19 Try.underlying70 HI.out HZ0.out rfl rfl g ((i + (n - (i + 1))) * 19) (n - (i + (n - (i + 1)))) (cap - (i + (n - (i + 1)))) _ 83 hb1 (by omega) hlen1 (by decide) (by omega)
  clear hlen1
  go_wp2
  go_ret
  have hs := splice_delete (xs := xs) (rest := rest) (Z := (Builtin.zeroCells ((linkC 0) : List Value).toArray 1).toList) HL.out (by simp [Builtin.zeroCells, linkC]) hi
  have e9 : n - (i + (n - (i + 1))) = 1 := by omega
  have e8 : i + (n - (i + 1)) = n - 1 := by omega
  rw [e9, HX.out, HY.out, hs] at hb2
  refine ⟨by show Ending.returned (.slice (some ⟨g, 0, none⟩) (i + (n - (i + 1))) cap) = _; rw [e8], ?_, (Fr.trans (b := w1) ⟨hf1.os, hf1.tape, hf1.output, hf1.size, hf1.block⟩ hf2)⟩
  have hl3 : (xs.take (i * 19) ++ xs.drop ((i + 1) * 19)).length = (n - 1) * 19 := by
    have e3 := HL.out
    rw [List.length_append, List.length_take, List.length_drop]; omega
  refine ownsRow_mk hB (by omega) (by unfold maxLen; omega) hl3 ?_ hb2
  have e2 := HL2.out; have e3 := HL.out
  rw [hl3, List.length_append, show ((Builtin.zeroCells ((linkC 0) : List Value).toArray 1).toList).length = 19 by simp [Builtin.zeroCells, linkC]]; omega

end Go.Proofs.Qxb6600404a
