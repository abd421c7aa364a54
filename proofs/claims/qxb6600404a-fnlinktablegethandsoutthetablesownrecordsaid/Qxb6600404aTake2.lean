/-
  Seat b6600404a: ZZLinkTableTakeDown, zzWithoutInt, zzWithoutByte.
-/
import Derived.Test.Qxb6600404aTake1
namespace Go.Proofs.Qxb6600404a
open Go.RowKit
set_option linter.unusedVariables false
set_option linter.unusedSimpArgs false

/-- takeDown hands back a link with seq x and the bool b, and leaves a world that Post speaks of. -/
def Took (Post : Int → Bool → World → Prop) (e : Ending) (w' : World) : Prop := ∃ x b, e = .returned (.tuple #[.agg (linkC x).toArray, .bool b]) ∧ Post x b w'
/-- The same with the link in a block of its own. -/
def TookP (Post : Int → Bool → World → Prop) (e : Ending) (w'' : World) : Prop := ∃ x b w', e = .returned (.tuple #[.pointer (some ⟨w'.heap.size, 0, none⟩), .bool b]) ∧ w'' = w'.alloc (.cells (linkC x).toArray 83) ∧ Post x b w'

set_option maxHeartbeats 1000000 in
set_option maxRecDepth 100000 in
theorem takeDown32 (t : Nat) (j : Int) (w : World) (Post : Int → Bool → World → Prop) (h : Calls Try.prog 52 #[.pointer (some ⟨t, 0, none⟩), .int .i64 j] w (Took Post)) :
    Calls Try.prog 32 #[.pointer (some ⟨t, 0, none⟩), .int .i64 j] w (TookP Post) := by
  go_enter Try.func32, Try.ntmps32
  go_wp2_with fail
  refine h.mono ?_
  rintro e w' ⟨x, b, rfl, hp⟩
  have HP := hid hp
  have hst := storeNew83 (linkC_length x) (linkC_one x)
  have hlz : (linkC x).length = 19 := linkC_length x
  obtain ⟨cs, hcs⟩ : ∃ cs, cs = linkC x := ⟨_, rfl⟩
  rw [← hcs] at hst hlz ⊢
  have HCS := hid hcs
  clear hp hcs h
  go_wp2
  go_ret2
  exact ⟨x, b, w', rfl, by rw [HCS.out], HP.out⟩

theorem wo_ne {k : Nat} {l : List Int} {x : Int} (h : l.length ≠ k) : wo k (l ++ [x]) = wo k l ++ [x] := by
  unfold wo
  rcases Nat.lt_or_ge l.length k with h1 | h1
  · rw [List.take_of_length_le (l := l ++ [x]) (by simp; omega), List.take_of_length_le (l := l) (by omega), List.drop_of_length_le (l := l ++ [x]) (by simp; omega), List.drop_of_length_le (l := l) (by omega)]; simp
  · rw [List.take_append_of_le_length h1, List.drop_append_of_le_length (by omega), List.append_assoc]
theorem wo_eq {k : Nat} {l : List Int} {x : Int} (h : l.length = k) : wo k (l ++ [x]) = wo k l := by
  unfold wo
  rw [List.take_append_of_le_length (by omega), List.drop_of_length_le (l := l ++ [x]) (by simp; omega), List.drop_of_length_le (l := l) (by omega)]
theorem wo_le (k : Nat) (l : List Int) : (wo k l).length ≤ l.length := by
  unfold wo; rw [List.length_append, List.length_take, List.length_drop]; omega

/-- What zzWithout33 comes to. -/
def WoPost33 (xs : List Int) (k : Nat) (w : World) (e : Ending) (w' : World) : Prop := ∃ v, e = .returned v ∧ w'.ownsRow w.heap.size 3 1 v (wo k xs).length (ints .i64 (wo k xs)) ∧ Below w.heap.size w w'

set_option maxHeartbeats 1600000 in
set_option maxRecDepth 1000000 in
theorem without33 (a0 : Option Addr) (n0 c0 k : Nat) (xs : List Int) (w : World) (h0 : Row .i64 w a0 n0 xs) (hn0 : n0 ≤ 100000000) (hk : k < n0) :
    Calls Try.prog 33 #[.slice a0 n0 c0, .int .i64 k] w (WoPost33 xs k w) := by
  obtain ⟨i0, hi0, hz0, hz1, hz2⟩ := info_parts info3
  have HLN := hid h0.len
  go_enter Try.func33, Try.ntmps33
  go_wp2_with (at_make; refine wpList_make_own _ rfl _ _ 22 rfl w.heap.size 3 i0 (.int .i64 0) 1 Try.underlying22 hi0 hz0 hz1 _ _ _ n0 rfl rfl (by omega) (by rw [hz2]; omega) (by unfold maxLen; omega) (Nat.le_refl _) ?_)
  intro w1 hown1 hgrow1
  have hb1 : Below w.heap.size w w1 := (Below.refl _ _).grown hgrow1 (Nat.le_refl _) (by simp)
  go_wp2
  go_loopw [5, 6] (fun v i wr => ∃ m : Nat, m ≤ n0 ∧ i = .int .i64 m ∧ wr.ownsRow w.heap.size 3 1 v (wo k (xs.take m)).length (ints .i64 (wo k (xs.take m))) ∧ Below w.heap.size w wr) (fun _ i _ => n0 - (intOf i).toNat)
  case atStart => exact ⟨0, Nat.zero_le _, rfl, by simpa [wo, ints] using hown1, hb1⟩
  case round =>
    clear hown1 hgrow1 hb1
    obtain ⟨m, hm, rfl, hown, hb⟩ := hrel
    by_cases hlt : m < n0
    · obtain ⟨b, off, x, rfl, e0, HX⟩ := (h0.keep hb).at m hlt
      have HTL : Hid ((xs.take m).length = m) := by show _ = _; have := HLN.out; simp; omega
      by_cases hmk : m = k
      · subst hmk
        go_wp2
        go_roundw
        case rel => exact ⟨m + 1, by omega, by go_num, by rw [take_snoc HX.out, wo_eq HTL.out]; exact hown, hb⟩
        case measure => simp [intOf]; omega
      · have hne : ((m : Int) != (k : Int)) = true := by simp; omega
        have HMK := hid hmk
        clear hmk
        go_wp2_with (at_builtin; refine wpList_append_own _ rfl _ _ 22 rfl w.heap.size 3 i0 (.int .i64 0) 1 8 Try.underlying22 hi0 hz0 hz1 hz2 rfl (by decide) _ _ _ rfl (hown.alloc _) ⟨wr.heap.size, 0, none⟩ 1 1 [.int .i64 x] rfl rfl ?c1 ?c2 ?c3 ?c4 ?c5 ?_)
        case c1 =>
          intro j u hj
          match j, hj with
          | 0, hj => simp at hj; subst hj; simp [Addr.add]
        case c2 => intro u hu; simp at hu; subst hu; rfl
        case c3 => have h1 := wo_le k (xs.take m); rw [HTL.out] at h1; unfold maxLen; omega
        case c4 => have h1 := wo_le k (xs.take m); rw [HTL.out] at h1; omega
        case c5 => have := hb.size; simp; omega
        intro v' w2 hown' hgrow _
        have hb2 : Below w.heap.size w w2 := (hb.alloc hb.size _).grown hgrow (by have := hb.size; simp; omega) (fun g hg => (hown.lt g hg).1)
        have hown2 : w2.ownsRow w.heap.size 3 1 v' (wo k (xs.take (m + 1))).length (ints .i64 (wo k (xs.take (m + 1)))) := by
          rw [take_snoc HX.out, wo_ne (by rw [HTL.out]; exact HMK.out)]
          simpa [ints] using hown'
        clear hown' hgrow hown
        go_wp2
        go_roundw
        case rel => exact ⟨m + 1, by omega, by go_num, hown2, hb2⟩
        case measure => simp [intOf]; omega
    · obtain rfl : m = n0 := by omega
      go_wp2
      go_ret
      rw [List.take_of_length_le (by rw [HLN.out]; omega)] at hown
      exact ⟨_, rfl, hown, hb⟩

/-- What zzWithout34 comes to. -/
def WoPost34 (xs : List Int) (k : Nat) (w : World) (e : Ending) (w' : World) : Prop := ∃ v, e = .returned v ∧ w'.ownsRow w.heap.size 5 1 v (wo k xs).length (ints .u8 (wo k xs)) ∧ Below w.heap.size w w'

set_option maxHeartbeats 1600000 in
set_option maxRecDepth 1000000 in
theorem without34 (a0 : Option Addr) (n0 c0 k : Nat) (xs : List Int) (w : World) (h0 : Row .u8 w a0 n0 xs) (hn0 : n0 ≤ 100000000) (hk : k < n0) :
    Calls Try.prog 34 #[.slice a0 n0 c0, .int .i64 k] w (WoPost34 xs k w) := by
  obtain ⟨i0, hi0, hz0, hz1, hz2⟩ := info_parts info5
  have HLN := hid h0.len
  go_enter Try.func34, Try.ntmps34
  go_wp2_with (at_make; refine wpList_make_own _ rfl _ _ 34 rfl w.heap.size 5 i0 (.int .u8 0) 1 Try.underlying34 hi0 hz0 hz1 _ _ _ n0 rfl rfl (by omega) (by rw [hz2]; omega) (by unfold maxLen; omega) (Nat.le_refl _) ?_)
  intro w1 hown1 hgrow1
  have hb1 : Below w.heap.size w w1 := (Below.refl _ _).grown hgrow1 (Nat.le_refl _) (by simp)
  go_wp2
  go_loopw [5, 6] (fun v i wr => ∃ m : Nat, m ≤ n0 ∧ i = .int .i64 m ∧ wr.ownsRow w.heap.size 5 1 v (wo k (xs.take m)).length (ints .u8 (wo k (xs.take m))) ∧ Below w.heap.size w wr) (fun _ i _ => n0 - (intOf i).toNat)
  case atStart => exact ⟨0, Nat.zero_le _, rfl, by simpa [wo, ints] using hown1, hb1⟩
  case round =>
    clear hown1 hgrow1 hb1
    obtain ⟨m, hm, rfl, hown, hb⟩ := hrel
    by_cases hlt : m < n0
    · obtain ⟨b, off, x, rfl, e0, HX⟩ := (h0.keep hb).at m hlt
      have HTL : Hid ((xs.take m).length = m) := by show _ = _; have := HLN.out; simp; omega
      by_cases hmk : m = k
      · subst hmk
        go_wp2
        go_roundw
        case rel => exact ⟨m + 1, by omega, by go_num, by rw [take_snoc HX.out, wo_eq HTL.out]; exact hown, hb⟩
        case measure => simp [intOf]; omega
      · have hne : ((m : Int) != (k : Int)) = true := by simp; omega
        have HMK := hid hmk
        clear hmk
        go_wp2_with (at_builtin; refine wpList_append_own _ rfl _ _ 34 rfl w.heap.size 5 i0 (.int .u8 0) 1 1 Try.underlying34 hi0 hz0 hz1 hz2 rfl (by decide) _ _ _ rfl (hown.alloc _) ⟨wr.heap.size, 0, none⟩ 1 1 [.int .u8 x] rfl rfl ?c1 ?c2 ?c3 ?c4 ?c5 ?_)
        case c1 =>
          intro j u hj
          match j, hj with
          | 0, hj => simp at hj; subst hj; simp [Addr.add]
        case c2 => intro u hu; simp at hu; subst hu; rfl
        case c3 => have h1 := wo_le k (xs.take m); rw [HTL.out] at h1; unfold maxLen; omega
        case c4 => have h1 := wo_le k (xs.take m); rw [HTL.out] at h1; omega
        case c5 => have := hb.size; simp; omega
        intro v' w2 hown' hgrow _
        have hb2 : Below w.heap.size w w2 := (hb.alloc hb.size _).grown hgrow (by have := hb.size; simp; omega) (fun g hg => (hown.lt g hg).1)
        have hown2 : w2.ownsRow w.heap.size 5 1 v' (wo k (xs.take (m + 1))).length (ints .u8 (wo k (xs.take (m + 1)))) := by
          rw [take_snoc HX.out, wo_ne (by rw [HTL.out]; exact HMK.out)]
          simpa [ints] using hown'
        clear hown' hgrow hown
        go_wp2
        go_roundw
        case rel => exact ⟨m + 1, by omega, by go_num, hown2, hb2⟩
        case measure => simp [intOf]; omega
    · obtain rfl : m = n0 := by omega
      go_wp2
      go_ret
      rw [List.take_of_length_le (by rw [HLN.out]; omega)] at hown
      exact ⟨_, rfl, hown, hb⟩

end Go.Proofs.Qxb6600404a
