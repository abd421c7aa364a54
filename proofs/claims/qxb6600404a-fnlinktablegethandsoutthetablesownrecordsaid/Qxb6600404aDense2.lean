/-
  Seat b6600404a: the link table in memory: rows of links, ZZLinkTableDense, sparse, ZZLinkSetSeq, ZZLinkSeq.
-/
import Derived.Test.Qxb6600404aDense1
namespace Go.Proofs.Qxb6600404a
open Go.RowKit
set_option linter.unusedVariables false
set_option linter.unusedSimpArgs false

/-! ### Rows of links -/
def links (ts : List Int) : List Value := ts.flatMap linkC
theorem linkC_length (t : Int) : (linkC t).length = 19 := rfl
theorem links_nil : links [] = [] := rfl
theorem links_cons (t : Int) (ts : List Int) : links (t :: ts) = linkC t ++ links ts := by simp [links]
theorem links_append (a b : List Int) : links (a ++ b) = links a ++ links b := by simp [links]
theorem links_length : ∀ ts : List Int, (links ts).length = ts.length * 19
  | [] => rfl
  | t :: ts => by rw [links_cons, List.length_append, linkC_length, links_length ts, List.length_cons]; omega
theorem links_get : ∀ (ts : List Int) (k j : Nat) (x : Int), ts[k]? = some x → j < 19 → (links ts)[k * 19 + j]? = (linkC x)[j]?
  | [], k, j, x, h, hj => by simp at h
  | t :: ts, 0, j, x, h, hj => by
    simp at h; subst h
    rw [links_cons, List.getElem?_append_left (by rw [linkC_length]; omega), Nat.zero_mul, Nat.zero_add]
  | t :: ts, k + 1, j, x, h, hj => by
    rw [links_cons, List.getElem?_append_right (by rw [linkC_length]; omega), linkC_length, show (k + 1) * 19 + j - 19 = k * 19 + j by omega]
    exact links_get ts k j x (by simpa using h) hj
theorem links_set : ∀ (ts : List Int) (k : Nat) (y : Int), k < ts.length → (links ts).set (k * 19 + 13) (.int .u8 y) = links (ts.set k y)
  | [], k, y, h => by simp at h
  | t :: ts, 0, y, h => by
    rw [List.set_cons_zero, links_cons, links_cons, List.set_append_left _ _ (by rw [linkC_length]; omega)]
    rfl
  | t :: ts, k + 1, y, h => by
    rw [List.set_cons_succ, links_cons, links_cons, List.set_append_right _ _ (by rw [linkC_length]; omega), linkC_length, show (k + 1) * 19 + 13 - 19 = k * 19 + 13 by omega, links_set ts k y (by simpa using h)]
theorem links_one (ts : List Int) : ∀ u ∈ links ts, u.oneCell' = true := by
  intro u hu
  obtain ⟨t, _, ht⟩ := List.mem_flatMap.1 hu
  simp [linkC] at ht
  rcases ht with rfl | rfl | rfl | rfl | rfl | rfl <;> rfl

theorem ints_append (k : IntKind) (a b : List Int) : ints k (a ++ b) = ints k a ++ ints k b := by simp [ints]
theorem ints_take (k : IntKind) (a : List Int) (n : Nat) : (ints k a).take n = ints k (a.take n) := by simp [ints, List.map_take]
theorem ints_drop (k : IntKind) (a : List Int) (n : Nat) : (ints k a).drop n = ints k (a.drop n) := by simp [ints, List.map_drop]
theorem links_take (ts : List Int) (n : Nat) : (links ts).take (n * 19) = links (ts.take n) := by
  by_cases h : n ≤ ts.length
  · have e : links ts = links (ts.take n) ++ links (ts.drop n) := by rw [← links_append, List.take_append_drop]
    rw [e, List.take_append_of_le_length (by rw [links_length, List.length_take]; omega), List.take_of_length_le (by rw [links_length, List.length_take]; omega)]
  · rw [List.take_of_length_le (by rw [links_length]; omega), List.take_of_length_le (by omega)]
theorem links_drop (ts : List Int) (n : Nat) : (links ts).drop (n * 19) = links (ts.drop n) := by
  by_cases h : n ≤ ts.length
  · have e : links ts = links (ts.take n) ++ links (ts.drop n) := by rw [← links_append, List.take_append_drop]
    have hl : (links (ts.take n)).length = n * 19 := by rw [links_length, List.length_take]; omega
    rw [e, List.drop_append_of_le_length (by omega), List.drop_of_length_le (by omega), List.nil_append]
  · rw [List.drop_of_length_le (by rw [links_length]; omega), List.drop_of_length_le (by omega)]; rfl

/-- One link's cells in the row. -/
theorem Blk.link {w : World} {g k : Nat} {ts : List Int} {rest : List Value} {x : Int} (hb : Blk w g (links ts ++ rest) 83) (hx : ts[k]? = some x) {j : Nat} {v : Value} (hj : (linkC x)[j]? = some v) : w.cell? ⟨g, k * 19 + j, none⟩ = some v := by
  have hj' : j < 19 := by have := (List.getElem?_eq_some_iff.1 hj).1; rwa [linkC_length] at this
  have hk : k < ts.length := (List.getElem?_eq_some_iff.1 hx).1
  exact hb.cell (by rw [List.getElem?_append_left (by rw [links_length]; omega), links_get ts k j x hx hj', hj])

/-- What 'make([]link, n)' leaves. -/
theorem made_link (n : Nat) : (madeCells (linkC 0).toArray (n * 19)).toList = links (List.replicate n 0) := by
  apply List.ext_getElem?
  intro j
  by_cases hj : j < n * 19
  · have e : j = (j / 19) * 19 + j % 19 := by omega
    have hk : j / 19 < n := by omega
    have h2 : (links (List.replicate n 0))[j]? = (linkC 0)[j % 19]? := by
      rw [show (links (List.replicate n 0))[j]? = (links (List.replicate n 0))[(j / 19) * 19 + j % 19]? by rw [← e]]
      exact links_get _ _ _ _ (by simp [List.getElem?_replicate, hk]) (by omega)
    rw [h2]
    have h3 : j % 19 < (linkC 0).length := by rw [linkC_length]; omega
    rw [List.getElem?_eq_getElem h3]
    simp [madeCells, hj, linkC_length]
    rw [List.getElem?_eq_getElem h3]
    rfl
  · have h1 : (links (List.replicate n 0))[j]? = none := List.getElem?_eq_none (by rw [links_length, List.length_replicate]; omega)
    rw [h1]
    exact List.getElem?_eq_none (by simp [madeCells]; omega)

theorem made_links {w1 : World} {base g n : Nat} (hown : w1.ownsRow base 83 19 (.slice (some ⟨g, 0, none⟩) n n) n (madeCells (linkC 0).toArray (n * 19)).toList) : Blk w1 g (links (List.replicate n 0)) 83 := by
  rcases ownsRow_form hown with ⟨h, _⟩ | ⟨g', cap, rest, hv, _, _, _, hl, hl2, hblk⟩
  · simp at h
  · simp at hv
    obtain ⟨rfl, rfl⟩ := hv
    rw [made_link] at hblk hl hl2
    obtain rfl : rest = [] := List.eq_nil_of_length_eq_zero (by rw [links_length, List.length_replicate] at hl2; omega)
    rwa [List.append_nil] at hblk

/-- What ZZLinkTableDense comes to. -/
def DensePost (pv : Value) (ts : List Int) (w : World) (e : Ending) (w' : World) : Prop :=
  e = .returned (.pointer (some ⟨w.heap.size, 0, none⟩)) ∧ (∃ kv, Blk w' w.heap.size [pv, kv, .map none, .slice none 0 0, .int .i64 0, .map none] 74 ∧ w'.ownsRow w.heap.size 83 19 kv ts.length (links ts)) ∧ Below w.heap.size w w'

set_option maxHeartbeats 1000000 in
set_option maxRecDepth 100000 in
theorem dense20_pos (ap : Option Addr) (np cp : Nat) (a0 : Option Addr) (n0 c0 : Nat) (ts : List Int) (w : World) (h0 : Row .u8 w a0 n0 ts) (hn0 : n0 ≤ 10000000) (hpos : 0 < n0) :
    Calls Try.prog 20 #[.slice ap np cp, .slice a0 n0 c0] w (DensePost (.slice ap np cp) ts w) := by
  obtain ⟨i0, hi0, hz0, hz1, hz2⟩ := info_parts info83
  generalize hzz : linkC 0 = zz at hz0
  have HZ := hid hzz
  clear hzz
  have HLN := hid h0.len
  go_enter Try.func20, Try.ntmps20
  go_wp2_with (at_make; refine wpList_make_full _ rfl _ _ 70 rfl w.heap.size 83 i0 (.agg zz.toArray) 19 Try.underlying70 hi0 hz0 hz1 _ _ _ _ n0 rfl rfl rfl rfl (by rw [hz2]; omega) (by unfold maxLen; omega) (by simp) ?_)
  intro w1 hown hgrow
  have hb1 : Below w.heap.size w w1 := ((Below.refl _ _).alloc (Nat.le_refl _) _).grown hgrow (by simp) (by simp)
  have hs1 : Blk w1 w.heap.size [.slice ap np cp, .slice none 0 0, .map none, .slice none 0 0, .int .i64 0, .map none] 74 := (Blk.new w [.slice ap np cp, .slice none 0 0, .map none, .slice none 0 0, .int .i64 0, .map none] 74).grown hgrow (by simp)
  have hblk1 : Blk w1 (w.heap.size + 1) (links (List.replicate n0 0)) 83 := by
    have := HZ.out; subst this
    exact made_links hown
  have e0 := hs1.cell (j := 1) rfl
  have f0 := hs1.free 1
  clear hown hgrow hi0 hz0 hz1 hz2
  go_wp2
  go_loopw [6] (fun i wr => ∃ k, k ≤ n0 ∧ i = .int .i64 k ∧ Blk wr w.heap.size [.slice ap np cp, .slice (some ⟨w.heap.size + 1, 0, none⟩) n0 n0, .map none, .slice none 0 0, .int .i64 0, .map none] 74 ∧ Blk wr (w.heap.size + 1) (links (ts.take k ++ List.replicate (n0 - k) 0)) 83 ∧ Below w.heap.size w wr) (fun i _ => n0 - (intOf i).toNat)
  case atStart => exact ⟨0, Nat.zero_le _, rfl, hs1.set 1 _, by simpa using hblk1.other (a := ⟨w.heap.size, 1, none⟩) (.slice (some ⟨w.heap.size + 1, 0, none⟩) n0 n0) (by simp), hb1.setCell (by simp) _⟩
  case round =>
    obtain ⟨k, hk, rfl, hs, hg, hb⟩ := hrel
    clear hs1 hblk1 hb1 e0 f0
    have e0 := hs.cell (j := 1) rfl
    by_cases hlt : k < n0
    · obtain ⟨b, off, x, rfl, x0, HX⟩ := (h0.keep hb).at k hlt
      have HT : Hid ((ts.take k ++ List.replicate (n0 - k) 0).set k x = ts.take (k + 1) ++ List.replicate (n0 - (k + 1)) 0) := by
        show _ = _
        have hl := HLN.out
        rw [take_snoc HX.out, List.set_append_right _ _ (by simp; omega), show n0 - k = (n0 - (k + 1)) + 1 by omega, List.replicate_succ, show k - (ts.take k).length = 0 by simp; omega, List.set_cons_zero]
        simp
      have HK : Hid ((ts.take k ++ List.replicate (n0 - k) (0 : Int))[k]? = some 0) := by
        show _ = _
        have hl := HLN.out
        rw [List.getElem?_append_right (by simp; omega), show k - (ts.take k).length = 0 by simp; omega, show n0 - k = (n0 - (k + 1)) + 1 by omega, List.replicate_succ]; rfl
      have k0 : (wr.cell? ⟨w.heap.size + 1, k * 19 + 13, none⟩) = some (.int .u8 0) := Blk.link (rest := []) (by rw [List.append_nil]; exact hg) HK.out rfl
      have g0 := hg.free (k * 19 + 13)
      have HG : Hid (Blk (wr.setCell ⟨w.heap.size + 1, k * 19 + 13, none⟩ (.int .u8 x)) (w.heap.size + 1) (links (ts.take (k + 1) ++ List.replicate (n0 - (k + 1)) 0)) 83) := by
        have := hg.set (k * 19 + 13) (.int .u8 x)
        rw [links_set _ _ _ (by have := HLN.out; simp; omega), HT.out] at this
        exact this
      have HS := hid (hs.other (a := ⟨w.heap.size + 1, k * 19 + 13, none⟩) (.int .u8 x) (by simp))
      clear hg hs
      go_wp2
      go_region
      go_wp2
      go_roundw
      case rel => exact ⟨k + 1, by omega, by go_num, HS.out, HG.out, (hb.setCell (by simp) _).drew⟩
      case measure => simp [intOf]; omega
    · go_wp2
      go_ret
      obtain rfl : k = n0 := by omega
      have hl := HLN.out
      rw [List.take_of_length_le (by omega), Nat.sub_self, List.replicate_zero, List.append_nil] at hg
      refine ⟨rfl, ⟨_, hs, ?_⟩, hb⟩
      rw [hl]
      exact ownsRow_mk (rest := []) (by omega) (Nat.le_refl _) (by unfold maxLen; omega) (by rw [links_length, hl]) (by rw [links_length, hl]; simp) (by rw [List.append_nil]; exact hg)

set_option maxHeartbeats 1000000 in
set_option maxRecDepth 100000 in
theorem dense20 (ap : Option Addr) (np cp : Nat) (a0 : Option Addr) (n0 c0 : Nat) (ts : List Int) (w : World) (h0 : Row .u8 w a0 n0 ts) (hn0 : n0 ≤ 10000000) :
    Calls Try.prog 20 #[.slice ap np cp, .slice a0 n0 c0] w (DensePost (.slice ap np cp) ts w) := by
  rcases Nat.eq_zero_or_pos n0 with h | h
  · subst h
    obtain rfl : ts = [] := List.eq_nil_of_length_eq_zero h0.len
    go_enter Try.func20, Try.ntmps20
    go_wp2
    go_ret
    exact ⟨rfl, ⟨.slice none 0 0, Blk.new w [.slice ap np cp, .slice none 0 0, .map none, .slice none 0 0, .int .i64 0, .map none] 74, World.ownsRow_nil _ _ _ _⟩, (Below.refl _ _).alloc (Nat.le_refl _) _⟩
  · exact dense20_pos ap np cp a0 n0 c0 ts w h0 hn0 h

end Go.Proofs.Qxb6600404a
