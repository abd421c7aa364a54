/-
  Seat b6600404a: ZZRunSetOf, ZZRunSetRuns: a run set out of plain data and back.
-/
import Derived.Test.Qxb6600404aAdd
namespace Go.Proofs.Qxb6600404a
open Go.RowKit
set_option linter.unusedVariables false
set_option linter.unusedSimpArgs false

def mk0 (v n : Value) : List Value := [v, n]
theorem hdr0 : Hdr mk0 0 := ⟨fun _ _ => rfl, fun _ _ => rfl, fun _ _ _ => rfl, fun _ _ _ => rfl⟩

theorem made_two (z : Value) (n : Nat) : (madeCells #[z, z] n).toList = List.replicate n z := by
  apply List.ext_getElem?
  intro j
  by_cases hj : j < n
  · rcases (show j % 2 = 0 ∨ j % 2 = 1 by omega) with h | h <;> simp [madeCells, hj, h]
  · simp [madeCells, hj]

theorem set_two {xs : List Value} {z : Value} {m k : Nat} {a b : Value} (hl : xs.length = k * 2) : ((xs ++ List.replicate ((m + 1) * 2) z).set (k * 2) a).set (k * 2 + 1) b = xs ++ [a, b] ++ List.replicate (m * 2) z := by
  rw [show (m + 1) * 2 = m * 2 + 2 by omega, ← hl, List.set_append_right _ _ (Nat.le_refl _), List.set_append_right _ _ (by omega)]
  simp [List.replicate_succ]

set_option maxHeartbeats 2000000 in
set_option maxRecDepth 100000 in
theorem runSetOf_pos (a0 a1 : Option Addr) (n0 c0 c1 : Nat) (lo hi : List Int) (n : Int) (w : World) (h0 : Row .i64 w a0 n0 lo) (h1 : Row .i64 w a1 n0 hi) (hn0 : n0 ≤ 100000000) (hpos : 0 < n0) :
    Calls Try.prog 12 #[.slice a0 n0 c0, .slice a1 n0 c1, .int .i64 n] w fun e w' => e = .returned (.pointer (some ⟨w.heap.size, 0, none⟩)) ∧ (∃ v, RS mk0 66 w' w.heap.size w.heap.size v (lo.zip hi) n) ∧ Below w.heap.size w w' := by
  obtain ⟨i0, hi0, hz0, hz1, hz2⟩ := info_parts info68
  go_enter Try.func12, Try.ntmps12
  go_wp2_with (at_make; refine wpList_make_full _ rfl _ _ 64 rfl w.heap.size 68 i0 (.agg #[.int .i64 0, .int .i64 0]) 2 Try.underlying64 hi0 hz0 hz1 _ _ _ _ n0 rfl rfl rfl rfl (by rw [hz2]; omega) (by unfold maxLen; omega) (by simp) ?_)
  intro w1 hown hgrow
  have hb1 : Below w.heap.size w w1 := ((Below.refl _ _).alloc (Nat.le_refl _) _).grown hgrow (by simp) (by simp)
  have hs1 : Blk w1 w.heap.size [.slice none 0 0, .int .i64 n] 66 := (Blk.new w [.slice none 0 0, .int .i64 n] 66).grown hgrow (by simp)
  obtain ⟨rest, hr1, hblk1⟩ : ∃ rest, rest = List.replicate (n0 * 2) (Value.int .i64 0) ∧ Blk w1 (w.heap.size + 1) rest 68 := by
    rcases ownsRow_form hown with ⟨h, _⟩ | ⟨g, cap, rest, hv, _, _, _, hl, hl2, hblk⟩
    · simp at h
    · simp at hv
      obtain ⟨rfl, rfl⟩ := hv
      rw [made_two] at hblk hl hl2
      obtain rfl : rest = [] := List.eq_nil_of_length_eq_zero (by rw [List.length_replicate] at hl2; omega)
      rw [List.append_nil] at hblk
      exact ⟨_, rfl, hblk⟩
  have e0 := hs1.cell (j := 0) rfl
  have f0 := hs1.free 0
  clear hown hgrow hi0 hz0 hz1 hz2
  have HR := hid hr1
  clear hr1
  go_wp2
  go_loopw [8] (fun i wr => ∃ k, k ≤ n0 ∧ i = .int .i64 k ∧ Blk wr w.heap.size [.slice (some ⟨w.heap.size + 1, 0, none⟩) n0 n0, .int .i64 n] 66 ∧ Blk wr (w.heap.size + 1) (flat ((lo.zip hi).take k) ++ List.replicate ((n0 - k) * 2) (.int .i64 0)) 68 ∧ Below w.heap.size w wr) (fun i _ => n0 - (intOf i).toNat)
  case atStart => exact ⟨0, Nat.zero_le _, rfl, hs1.set 0 _, by have := hblk1.other (a := ⟨w.heap.size, 0, none⟩) (.slice (some ⟨w.heap.size + 1, 0, none⟩) n0 n0) (by simp); rw [HR.out] at this; simpa [flat] using this, hb1.setCell (by simp) _⟩
  case round =>
    obtain ⟨k, hk, rfl, hs, hg, hb⟩ := hrel
    clear hs1 hblk1 hb1 e0 f0
    have e0 := hs.cell (j := 0) rfl
    by_cases hlt : k < n0
    · obtain ⟨b, off, x, rfl, x0, HX⟩ := (h0.keep hb).at k hlt
      obtain ⟨b', off', y, rfl, y0, HY⟩ := (h1.keep hb).at k hlt
      obtain ⟨m, hm⟩ : ∃ m, n0 - k = m + 1 := ⟨n0 - k - 1, by omega⟩
      have HM : Hid (n0 - (k + 1) = m) := by show _ = _; omega
      have HT : Hid ((lo.zip hi).take (k + 1) = (lo.zip hi).take k ++ [(x, y)]) := take_snoc (by rw [List.getElem?_zip_eq_some]; exact ⟨HX.out, HY.out⟩)
      have HLN : Hid ((flat ((lo.zip hi).take k)).length = k * 2) := by
        show _ = _
        have e1 := h0.len; have e2 := h1.len
        rw [flat_length, List.length_take, List.length_zip]; omega
      rw [hm] at hg
      have k0 : (wr.cell? ⟨w.heap.size + 1, k * 2, none⟩) = some (.int .i64 0) := hg.cell (by rw [List.getElem?_append_right (by rw [HLN.out]; omega), HLN.out, List.getElem?_replicate, if_pos (by omega)])
      have k1 : (wr.cell? ⟨w.heap.size + 1, k * 2 + 1, none⟩) = some (.int .i64 0) := hg.cell (by rw [List.getElem?_append_right (by rw [HLN.out]; omega), HLN.out, List.getElem?_replicate, if_pos (by omega)])
      have g0 := hg.free (k * 2)
      have g1 := hg.free (k * 2 + 1)
      clear hm
      go_wp2
      go_region
      have HG : Hid (Blk ((wr.setCell ⟨w.heap.size + 1, k * 2, none⟩ (.int .i64 x)).setCell ⟨w.heap.size + 1, k * 2 + 1, none⟩ (.int .i64 y)) (w.heap.size + 1) (flat ((lo.zip hi).take (k + 1)) ++ List.replicate ((n0 - (k + 1)) * 2) (.int .i64 0)) 68) := by
        have := (hg.set (k * 2) (.int .i64 x)).set (k * 2 + 1) (.int .i64 y)
        rw [set_two HLN.out] at this
        rw [HM.out, HT.out, flat_append]
        exact this
      have HS : Hid (Blk ((wr.setCell ⟨w.heap.size + 1, k * 2, none⟩ (.int .i64 x)).setCell ⟨w.heap.size + 1, k * 2 + 1, none⟩ (.int .i64 y)) w.heap.size [Value.slice (some { block := w.heap.size + 1, off := 0 }) n0 n0, Value.int IntKind.i64 n] 66) := (hs.other _ (by simp)).other _ (by simp)
      clear hg hs
      go_wp2
      go_roundw
      case rel => exact ⟨k + 1, by omega, by go_num, HS.out, HG.out, ((hb.setCell (by simp) _).setCell (by simp) _).drew⟩
      case measure => simp [intOf]; omega
    · go_wp2
      go_ret
      obtain rfl : k = n0 := by omega
      refine ⟨rfl, ⟨_, hs, ?_⟩, hb⟩
      have e1 := h0.len; have e2 := h1.len
      have hl : (lo.zip hi).length = k := by rw [List.length_zip]; omega
      rw [List.take_of_length_le (by omega), Nat.sub_self, Nat.zero_mul, List.replicate_zero] at hg
      rw [hl]
      exact ownsRow_mk (by omega) (Nat.le_refl _) (by unfold maxLen; omega) (by rw [flat_length, hl]) (by rw [flat_length, hl]; simp) hg

set_option maxHeartbeats 2000000 in
set_option maxRecDepth 100000 in
theorem runSetOf_zero (a0 a1 : Option Addr) (c0 c1 : Nat) (n : Int) (w : World) :
    Calls Try.prog 12 #[.slice a0 0 c0, .slice a1 0 c1, .int .i64 n] w fun e w' => e = .returned (.pointer (some ⟨w.heap.size, 0, none⟩)) ∧ (∃ v, RS mk0 66 w' w.heap.size w.heap.size v [] n) ∧ Below w.heap.size w w' := by
  go_enter Try.func12, Try.ntmps12
  go_wp2
  go_ret
  exact ⟨rfl, ⟨.slice none 0 0, Blk.new w [.slice none 0 0, .int .i64 n] 66, World.ownsRow_nil _ _ _ _⟩, (Below.refl _ _).alloc (Nat.le_refl _) _⟩

/-- ZZRunSetOf: the run set of the runs [lo[i], hi[i]). -/
theorem runSetOf (a0 a1 : Option Addr) (n0 c0 c1 : Nat) (lo hi : List Int) (n : Int) (w : World) (h0 : Row .i64 w a0 n0 lo) (h1 : Row .i64 w a1 n0 hi) (hn0 : n0 ≤ 100000000) :
    Calls Try.prog 12 #[.slice a0 n0 c0, .slice a1 n0 c1, .int .i64 n] w fun e w' => e = .returned (.pointer (some ⟨w.heap.size, 0, none⟩)) ∧ (∃ v, RS mk0 66 w' w.heap.size w.heap.size v (lo.zip hi) n) ∧ Below w.heap.size w w' := by
  rcases Nat.eq_zero_or_pos n0 with h | h
  · subst h
    obtain rfl : lo = [] := List.eq_nil_of_length_eq_zero h0.len
    simpa using runSetOf_zero a0 a1 c0 c1 n w
  · exact runSetOf_pos a0 a1 n0 c0 c1 lo hi n w h0 h1 hn0 h

/-! ### Rows of integers that the call makes -/
def ints (k : IntKind) (xs : List Int) : List Value := xs.map (Value.int k)
theorem ints_length (k : IntKind) (xs : List Int) : (ints k xs).length = xs.length := by simp [ints]
theorem ints_get {k : IntKind} {xs : List Int} {i : Nat} {x : Int} (h : xs[i]? = some x) : (ints k xs)[i]? = some (.int k x) := by simp [ints, h]
theorem set_one {k : IntKind} {xs : List Int} {z : Value} {m j : Nat} {x : Int} (hl : xs.length = j) : (ints k xs ++ List.replicate (m + 1) z).set j (.int k x) = ints k (xs ++ [x]) ++ List.replicate m z := by
  subst hl
  rw [List.set_append_right _ _ (by rw [ints_length]; exact Nat.le_refl _), ints_length]
  simp [ints, List.replicate_succ]
theorem zero_at {k : IntKind} {xs : List Int} {z : Value} {m j : Nat} (hl : xs.length = j) : (ints k xs ++ List.replicate (m + 1) z)[j]? = some z := by
  subst hl
  rw [List.getElem?_append_right (by rw [ints_length]; exact Nat.le_refl _), ints_length]
  simp [List.getElem?_replicate]
theorem Row.of_blk {k : IntKind} {w : World} {g n : Nat} {t : TypeId} {xs : List Int} {rest : List Value} (h : Blk w g (ints k xs ++ rest) t) (hl : xs.length = n) : Row k w (some ⟨g, 0, none⟩) n xs :=
  ⟨hl, fun _ => ⟨g, 0, rfl, fun i x hx => by
    rw [Nat.zero_add]
    have hi : i < xs.length := (List.getElem?_eq_some_iff.1 hx).1
    exact h.cell (by rw [List.getElem?_append_left (by rw [ints_length]; exact hi)]; exact ints_get hx)⟩⟩

/-- What 'make([]int, n)' leaves, as a block. -/
theorem made_ints {w1 : World} {base g n : Nat} {e : TypeId} {z : Value} (hown : w1.ownsRow base e 1 (.slice (some ⟨g, 0, none⟩) n n) n (madeCells #[z] n).toList) : Blk w1 g (List.replicate n z) e := by
  rcases ownsRow_form hown with ⟨h, _⟩ | ⟨g', cap, rest, hv, _, _, _, hl, hl2, hblk⟩
  · simp at h
  · simp at hv
    obtain ⟨rfl, rfl⟩ := hv
    rw [toList_madeCells_one] at hblk hl hl2
    obtain rfl : rest = [] := List.eq_nil_of_length_eq_zero (by rw [List.length_replicate] at hl2; omega)
    rwa [List.append_nil] at hblk

set_option maxHeartbeats 2000000 in
set_option maxRecDepth 100000 in
theorem runSetRuns {mk : Value → Value → List Value} {T : TypeId} {o : Nat} (H : Hdr mk o) (B s N cap : Nat) (ao : Option Addr) (rs : List (Int × Int)) (n : Int) (w : World) (hrs : RS mk T w B s (.slice ao N cap) rs n) (hN : N = rs.length) (hn : N ≤ 100000000) (hN' : Hid (rs.length = N))
    (hcells : ∀ w', Below w.heap.size w w' → ∀ k, k < N → ∃ g x y, ao = some ⟨g, 0, none⟩ ∧ Hid (rs[k]? = some (x, y)) ∧ w'.cell? ⟨g, k * 2, none⟩ = some (.int .i64 x) ∧ w'.cell? ⟨g, k * 2 + 1, none⟩ = some (.int .i64 y)) :
    Calls Try.prog 14 #[.pointer (some ⟨s, o, none⟩)] w fun e w' => ∃ g0 g1, e = .returned (.tuple #[.slice (some ⟨g0, 0, none⟩) N N, .slice (some ⟨g1, 0, none⟩) N N, .int .i64 n]) ∧ Row .i64 w' (some ⟨g0, 0, none⟩) N (rs.map (·.1)) ∧ Row .i64 w' (some ⟨g1, 0, none⟩) N (rs.map (·.2)) ∧ Below w.heap.size w w' := by
  obtain ⟨i0, hi0, hz0, hz1, hz2⟩ := info_parts info3
  have e0 := hrs.hdr.cell (H.at0 _ _)
  have HC := hid hcells
  clear hcells hN
  go_enter Try.func14, Try.ntmps14
  go_wp2_with (at_make; refine wpList_make_full _ rfl _ _ 22 rfl w.heap.size 3 i0 (.int .i64 0) 1 Try.underlying22 hi0 hz0 hz1 _ _ _ _ N rfl rfl rfl rfl (by rw [hz2]; omega) (by unfold maxLen; omega) (Nat.le_refl _) ?_)
  intro w1 hown1 hgrow1
  have hb1 : Below w.heap.size w w1 := (Below.refl _ _).grown hgrow1 (Nat.le_refl _) (by simp)
  have hz : w.heap.size < w1.heap.size := by have := made_ints hown1; exact this.lt
  have c1 := (hrs.hdr.keep hb1).cell (H.at0 _ _)
  go_wp2_with (at_make; refine wpList_make_full _ rfl _ _ 22 rfl w.heap.size 3 i0 (.int .i64 0) 1 Try.underlying22 hi0 hz0 hz1 _ _ _ _ N rfl rfl rfl rfl (by rw [hz2]; omega) (by unfold maxLen; omega) (by omega) ?_)
  intro w2 hown2 hgrow2
  have hb2 : Below w.heap.size w w2 := hb1.grown hgrow2 (by omega) (by simp)
  have k1 := (made_ints hown1).grown hgrow2 (by simp)
  have k2 := made_ints hown2
  generalize w1.heap.size = N1 at hz k2 ⊢
  clear hown1 hgrow1 hown2 hgrow2 c1 hi0 hz0 hz1 hz2 e0 hb1
  go_wp2
  go_loopw [7] (fun i wr => ∃ k, k ≤ N ∧ i = .int .i64 k ∧ Blk wr w.heap.size (ints .i64 ((rs.map (·.1)).take k) ++ List.replicate (N - k) (.int .i64 0)) 3 ∧ Blk wr N1 (ints .i64 ((rs.map (·.2)).take k) ++ List.replicate (N - k) (.int .i64 0)) 3 ∧ Below w.heap.size w wr) (fun i _ => N - (intOf i).toNat)
  case atStart => exact ⟨0, Nat.zero_le _, rfl, by simpa [ints] using k1, by simpa [ints] using k2, hb2⟩
  case round =>
    clear k1 k2 hb2
    obtain ⟨k, hk, rfl, h1, h2, hb⟩ := hrel
    have hh := hrs.hdr.keep hb
    have e0 := hh.cell (H.at0 _ _)
    have e1 := hh.cell (H.at1 _ _)
    by_cases hlt : k < N
    · obtain ⟨g, x, y, rfl, HR, x0, y0⟩ := HC.out wr hb k hlt
      obtain ⟨m, hm⟩ : ∃ m, N - k = m + 1 := ⟨N - k - 1, by omega⟩
      have HM : Hid (N - (k + 1) = m) := by show _ = _; omega
      rw [hm] at h1 h2
      clear hm
      have HL1 : Hid (((rs.map (·.1)).take k).length = k) := by show _ = _; have := hN'.out; simp; omega
      have HL2 : Hid (((rs.map (·.2)).take k).length = k) := by show _ = _; have := hN'.out; simp; omega
      have z1 := h1.cell (zero_at HL1.out)
      have z2 := h2.cell (zero_at HL2.out)
      have f1 := h1.free k
      have f2 := h2.free k
      have H1 : Hid (Blk ((wr.setCell ⟨w.heap.size, k, none⟩ (.int .i64 x)).setCell ⟨N1, k, none⟩ (.int .i64 y)) w.heap.size (ints .i64 ((rs.map (·.1)).take (k + 1)) ++ List.replicate (N - (k + 1)) (.int .i64 0)) 3) := by
        have := (h1.set k (.int .i64 x)).other (a := ⟨N1, k, none⟩) (.int .i64 y) (by simp; omega)
        rw [set_one HL1.out] at this
        rw [HM.out, take_snoc (show (rs.map (·.1))[k]? = some x by have := HR.out; simp [this])]
        exact this
      have H2 : Hid (Blk ((wr.setCell ⟨w.heap.size, k, none⟩ (.int .i64 x)).setCell ⟨N1, k, none⟩ (.int .i64 y)) N1 (ints .i64 ((rs.map (·.2)).take (k + 1)) ++ List.replicate (N - (k + 1)) (.int .i64 0)) 3) := by
        have := (h2.other (a := ⟨w.heap.size, k, none⟩) (.int .i64 x) (by simp; omega)).set k (.int .i64 y)
        rw [set_one HL2.out] at this
        rw [HM.out, take_snoc (show (rs.map (·.2))[k]? = some y by have := HR.out; simp [this])]
        exact this
      have hgs := World.block_lt_of_cell? wr _ x0
      have d0 : ∀ v, (wr.setCell ⟨w.heap.size, k, none⟩ v).cell? ⟨s, o, none⟩ = some (.slice (some ⟨g, 0, none⟩) N cap) := fun v => ((hh.other v (by have := hrs.hdr.lt; simp; omega)).cell (H.at0 _ _))
      have hbb : ∀ v, Below w.heap.size w (wr.setCell ⟨w.heap.size, k, none⟩ v) := fun v => hb.setCell (Nat.le_refl _) v
      obtain ⟨g', x', y', eg, HR', x1, y1⟩ := HC.out _ (hbb (.int .i64 x)) k hlt
      simp only [Option.some.injEq, Addr.mk.injEq, and_true] at eg
      subst eg
      obtain ⟨rfl, rfl⟩ : x' = x ∧ y' = y := by have := HR'.out.symm.trans HR.out; simpa using this
      clear h1 h2 hbb x1
      go_wp2
      go_roundw
      case rel => exact ⟨k + 1, by omega, by go_num, H1.out, H2.out, (hb.setCell (Nat.le_refl _) _).setCell (by simp; omega) _⟩
      case measure => simp [intOf]; omega
    · go_wp2
      go_quiet (fail)
      go_wp2
      go_ret3
      obtain rfl : k = N := by omega
      have hl := hN'.out
      rw [List.take_of_length_le (by simp; omega)] at h1 h2
      exact ⟨_, _, rfl, (Row.of_blk h1 (by simp [hl])).drewN _, (Row.of_blk h2 (by simp [hl])).drewN _, below_drewN hb _⟩

/-- ZZRunSetRuns: the run set's ends and its count. -/
theorem runs14 {mk : Value → Value → List Value} {T : TypeId} {o : Nat} (H : Hdr mk o) (B s : Nat) (v : Value) (rs : List (Int × Int)) (n : Int) (w : World) (hrs : RS mk T w B s v rs n) (hn : rs.length ≤ 100000000) :
    Calls Try.prog 14 #[.pointer (some ⟨s, o, none⟩)] w fun e w' => ∃ g0 g1, e = .returned (.tuple #[.slice (some ⟨g0, 0, none⟩) rs.length rs.length, .slice (some ⟨g1, 0, none⟩) rs.length rs.length, .int .i64 n]) ∧ Row .i64 w' (some ⟨g0, 0, none⟩) rs.length (rs.map (·.1)) ∧ Row .i64 w' (some ⟨g1, 0, none⟩) rs.length (rs.map (·.2)) ∧ Below w.heap.size w w' := by
  rcases ownsRow_form hrs.row with ⟨rfl, h0, _⟩ | ⟨g, cap, rest, rfl, hg, hnc, hcm, hl, hl2, hblk⟩
  · have := runSetRuns H B s 0 0 none rs n w hrs h0.symm (by omega) h0 (fun w' _ k hk => by omega)
    rw [h0]; exact this
  · exact runSetRuns H B s rs.length cap (some ⟨g, 0, none⟩) rs n w hrs rfl hn rfl (fun w' hb k hk => by
      obtain ⟨c0, c1⟩ := run_cells (hblk.keep hb) (List.getElem?_eq_getElem hk)
      exact ⟨g, rs[k].1, rs[k].2, rfl, List.getElem?_eq_getElem hk, c0, c1⟩)

end Go.Proofs.Qxb6600404a
