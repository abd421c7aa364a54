/-
  Seat b6600404a: withRoom at int and at link; makeRoom on a table whose rows have no spare room.
-/
import Derived.Test.Qxb6600404aSparse3
namespace Go.Proofs.Qxb6600404a
open Go.RowKit
set_option linter.unusedVariables false
set_option linter.unusedSimpArgs false

/-- A row made with length 0 and room for n elements: some cells. -/
theorem made_room {w1 : World} {base g n size : Nat} {e : TypeId} (hown : w1.ownsRow base e size (.slice (some ⟨g, 0, none⟩) 0 n) 0 []) : ∃ r : List Value, r.length = n * size ∧ Blk w1 g r e := by
  rcases ownsRow_form hown with ⟨h, _⟩ | ⟨g', cap, rest, hv, _, _, _, hl, hl2, hblk⟩
  · simp at h
  · simp at hv
    obtain ⟨rfl, rfl⟩ := hv
    exact ⟨rest, by simpa using hl2, by simpa using hblk⟩

/-- What a row's cells are to a builtin that reads it. -/
theorem src_of {w : World} {B : Nat} {e : TypeId} {size n c : Nat} {a : Option Addr} {cells : List Value} (h : w.ownsRow B e size (.slice a n c) n cells) : cells.length = n * size ∧ (a = none → n = 0 ∧ c = 0) ∧ ∀ ad, a = some ad → ∀ j u, cells[j]? = some u → w.cell? (ad.add j) = some u := by
  rcases ownsRow_form h with ⟨hv, h0, hx⟩ | ⟨g, cap, rest, hv, _, _, _, hl, hl2, hblk⟩
  · simp at hv
    obtain ⟨rfl, rfl, rfl⟩ := hv
    subst hx
    exact ⟨by simp, fun _ => ⟨rfl, rfl⟩, fun ad h => by cases h⟩
  · simp at hv
    obtain ⟨rfl, rfl⟩ := hv
    refine ⟨hl, fun h => (by cases h), fun ad h j u hu => ?_⟩
    cases h
    rw [Addr.add_lit, Nat.zero_add]
    have hj := (List.getElem?_eq_some_iff.1 hu).1
    exact hblk.cell (by rw [List.getElem?_append_left hj]; exact hu)

theorem splice_head {α : Type} {r cs : List α} (h : cs.length ≤ r.length) : splice r 0 cs = cs ++ r.drop cs.length := by simp [splice]

/-- What withRoom comes to where there is no spare room. -/
def RoomPost (ty : TypeId) (size N m : Nat) (cells : List Value) (w : World) (e : Ending) (w' : World) : Prop := ∃ g rest, e = .returned (.slice (some ⟨g, 0, none⟩) N (N + m)) ∧ w.heap.size ≤ g ∧ cells.length + rest.length = (N + m) * size ∧ Blk w' g (cells ++ rest) ty ∧ Below w.heap.size w w'

set_option maxHeartbeats 1000000 in
set_option maxRecDepth 100000 in
theorem room71 (B N m : Nat) (a : Option Addr) (cells : List Value) (w : World) (hown : w.ownsRow B 3 1 (.slice a N N) N cells) (h1 : ∀ u ∈ cells, u.oneCell' = true) (hm : 1 ≤ m) (hN : N + m ≤ 1000000) :
    Calls Try.prog 71 #[.slice a N N, .int .i64 m] w (RoomPost 3 1 N m cells w) := by
  obtain ⟨i0, hi0, hz0, hz1, hz2⟩ := info_parts info3
  obtain ⟨hl, hnone, _⟩ := src_of hown
  have HL := hid hl
  have HNO := hid hnone
  have HOWN := hid hown
  have H1 := hid h1
  clear hl hnone hown h1
  go_enter Try.func71, Try.ntmps71
  go_wp2_with (at_make; refine wpList_make_own _ rfl _ _ 22 rfl w.heap.size 3 i0 (.int .i64 0) 1 Try.underlying22 hi0 hz0 hz1 _ _ _ (N + m) rfl (by go_num) (by omega) (by rw [hz2]; omega) (by unfold maxLen; omega) (Nat.le_refl _) ?_)
  intro w1 hown1 hgrow1
  have hb1 : Below w.heap.size w w1 := (Below.refl _ _).grown hgrow1 (Nat.le_refl _) (by simp)
  obtain ⟨r, hr, hblk⟩ := made_room hown1
  have HR := hid hr
  have HB1 := hid hb1
  clear hown1 hgrow1 hr hb1
  go_wp2_with (at_builtin; refine wpList_append_blk rfl _ _ 22 rfl 3 i0 1 Try.underlying22 hi0 hz1 w.heap.size 0 (N + m) r rfl hblk a N N cells rfl HL.out HNO.out ((src_of (ownsRow_keep HOWN.out HB1.out)).2.2) H1.out (by omega) (by rw [HL.out, HR.out]; omega) ?_)
  intro w2 hb2 hf2
  clear hblk
  go_wp2
  go_ret
  rw [splice_head (by rw [HL.out, HR.out]; omega)] at hb2
  exact ⟨_, _, rfl, Nat.le_refl _, by rw [List.length_drop, HL.out, HR.out]; omega, hb2, HB1.out.trans (hf2.below HB1.out.size (by intro q hq; omega))⟩

set_option maxHeartbeats 1000000 in
set_option maxRecDepth 100000 in
theorem room72 (B N m : Nat) (a : Option Addr) (cells : List Value) (w : World) (hown : w.ownsRow B 83 19 (.slice a N N) N cells) (h1 : ∀ u ∈ cells, u.oneCell' = true) (hm : 1 ≤ m) (hN : N + m ≤ 1000000) :
    Calls Try.prog 72 #[.slice a N N, .int .i64 m] w (RoomPost 83 19 N m cells w) := by
  obtain ⟨i0, hi0, hz0, hz1, hz2⟩ := info_parts info83
  generalize linkC 0 = zz at hz0
  obtain ⟨hl, hnone, _⟩ := src_of hown
  have HL := hid hl
  have HNO := hid hnone
  have HOWN := hid hown
  have H1 := hid h1
  clear hl hnone hown h1
  go_enter Try.func72, Try.ntmps72
  go_wp2_with (at_make; refine wpList_make_own _ rfl _ _ 70 rfl w.heap.size 83 i0 (.agg zz.toArray) 19 Try.underlying70 hi0 hz0 hz1 _ _ _ (N + m) rfl (by go_num) (by omega) (by rw [hz2]; omega) (by unfold maxLen; omega) (Nat.le_refl _) ?_)
  intro w1 hown1 hgrow1
  have hb1 : Below w.heap.size w w1 := (Below.refl _ _).grown hgrow1 (Nat.le_refl _) (by simp)
  obtain ⟨r, hr, hblk⟩ := made_room hown1
  have HR := hid hr
  have HB1 := hid hb1
  clear hown1 hgrow1 hr hb1
  go_wp2_with (at_builtin; refine wpList_append_blk rfl _ _ 70 rfl 83 i0 19 Try.underlying70 hi0 hz1 w.heap.size 0 (N + m) r rfl hblk a N N cells rfl HL.out HNO.out ((src_of (ownsRow_keep HOWN.out HB1.out)).2.2) H1.out (by omega) (by rw [HL.out, HR.out]; omega) ?_)
  intro w2 hb2 hf2
  clear hblk
  go_wp2
  go_ret
  rw [splice_head (by rw [HL.out, HR.out]; omega)] at hb2
  exact ⟨_, _, rfl, Nat.le_refl _, by rw [List.length_drop, HL.out, HR.out]; omega, hb2, HB1.out.trans (hf2.below HB1.out.size (by intro q hq; omega))⟩

/-- What makeRoom comes to where neither row has spare room. -/
def MadePost (t N m : Nat) (cp ck : List Value) (mv uv un av : Value) (w : World) (e : Ending) (w' : World) : Prop :=
  e = .returned (.tuple #[]) ∧ ∃ gp gk rp rk, w.heap.size ≤ gp ∧ w.heap.size ≤ gk ∧ Blk w' t [.slice (some ⟨gp, 0, none⟩) N (N + m), .slice (some ⟨gk, 0, none⟩) N (N + m), mv, uv, un, av] 74 ∧
    cp.length + rp.length = (N + m) * 1 ∧ ck.length + rk.length = (N + m) * 19 ∧ Blk w' gp (cp ++ rp) 3 ∧ Blk w' gk (ck ++ rk) 83 ∧ Fr (fun k => k = t) w w'

set_option maxHeartbeats 2000000 in
set_option maxRecDepth 100000 in
theorem makeRoom62 (B t N m : Nat) (a b : Option Addr) (cp ck : List Value) (mv uv un av : Value) (w : World) (hdr : Blk w t [.slice a N N, .slice b N N, mv, uv, un, av] 74) (hp : w.ownsRow B 3 1 (.slice a N N) N cp) (hk : w.ownsRow B 83 19 (.slice b N N) N ck) (h1 : ∀ u ∈ cp, u.oneCell' = true) (h2 : ∀ u ∈ ck, u.oneCell' = true) (hm : 1 ≤ m) (hN : N + m ≤ 1000000) :
    Calls Try.prog 62 #[.pointer (some ⟨t, 0, none⟩), .int .i64 m] w (MadePost t N m cp ck mv uv un av w) := by
  have p0 := hdr.cell (j := 0) rfl
  have p1 := hdr.cell (j := 1) rfl
  have f0 := hdr.free 0
  have f1 := hdr.free 1
  have HD := hid hdr
  have HP := hid hp
  have HK := hid hk
  have H1 := hid h1
  have H2 := hid h2
  have htl := hdr.lt
  clear hdr hp hk h1 h2
  go_enter Try.func62, Try.ntmps62
  go_region_with
    (first
      | (go_at_call 71; refine (room71 B N m a cp _ (by exact HP.out) H1.out hm hN).mono ?_; rintro e w3 ⟨gp, rp, rfl, hgp, hlp, hbp, hb3⟩; go_must (
          have T1 := hid (HD.out.drew.keep hb3)
          have TK := hid (ownsRow_keep (World.ownsRow.drew HK.out) hb3)
          have t0 := T1.out.cell (j := 0) rfl
          have t1 := T1.out.cell (j := 1) rfl
          have GP := hid hgp
          have LP := hid hlp
          have BP := hid hbp
          have B3 := hid hb3
          clear hgp hlp hbp hb3))
      | (go_at_call 72; refine (room72 B N m b ck _ (by exact TK.out) H2.out hm hN).mono ?_; rintro e w4 ⟨gk, rk, rfl, hgk, hlk, hbk, hb4⟩; go_must (
          have S1 := hid (T1.out.keep hb4)
          have s0 := S1.out.cell (j := 0) rfl
          have s1 := S1.out.cell (j := 1) rfl
          have g0 := S1.out.free 0
          have g1 := S1.out.free 1
          have BP4 := hid (BP.out.keep hb4)
          have GK := hid hgk
          have LK := hid hlk
          have BK := hid hbk
          have B4 := hid hb4
          clear hgk hlk hbk hb4)))
  all_goals
    go_wp2
    go_end0
    have FT := two_stores w4 t (.slice (some ⟨gp, 0, none⟩) N (N + m)) (.slice (some ⟨gk, 0, none⟩) N (N + m))
    have hz : w.heap.size ≤ w3.heap.size := B3.out.size
    have q1 : w.heap.size ≤ gp := GP.out
    have q2 : w3.heap.size ≤ gk := GK.out
    refine ⟨rfl, gp, gk, rp, rk, q1, by omega, (S1.out.set 0 _).set 1 _, LP.out, LK.out, BP4.out.fr FT (by omega), BK.out.fr FT (by omega), ?_⟩
    exact Fr.trans (Fr.trans (b := w3) ⟨B3.out.os, B3.out.tape, B3.out.output, B3.out.size, fun k hk _ => B3.out.block k hk⟩ (Fr.of_below B4.out)) FT

end Go.Proofs.Qxb6600404a
