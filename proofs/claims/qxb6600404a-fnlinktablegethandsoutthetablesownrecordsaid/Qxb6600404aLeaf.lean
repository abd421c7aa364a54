/-
  Seat b6600404a: contracts of small functions that only read.
-/
import Derived.Test.Qxb6600404aKit
namespace Go.Proofs.Qxb6600404a
open Go.RowKit
set_option linter.unusedVariables false
set_option linter.unusedSimpArgs false

theorem eq_of_takes {xs ys : List Int} {n : Nat} (hx : xs.length = n) (hy : ys.length = n) (h : xs.take n = ys.take n) : xs = ys := by
  rwa [take_all (by omega), take_all (by omega)] at h

set_option maxHeartbeats 400000 in
theorem equalInts (a0 a1 : Option Addr) (n0 c0 n1 c1 : Nat) (xs ys : List Int) (w : World) (h0 : Row .i64 w a0 n0 xs) (h1 : Row .i64 w a1 n1 ys) (hn : n0 ≤ 1000000000) :
    Calls Try.prog 16 #[.slice a0 n0 c0, .slice a1 n1 c1] w fun e w' => e = .returned (.bool (decide (xs = ys))) ∧ ∃ q, w' = w.drewN q := by
  by_cases hlen : n0 = n1
  · subst hlen
    go_enter Try.func16, Try.ntmps16
    go_wp2
    go_loopw [5] (fun i wr => ∃ k q : Nat, k ≤ n0 ∧ i = .int .i64 k ∧ wr = w.drewN q ∧ Hid (xs.take k = ys.take k)) (fun i _ => n0 - (intOf i).toNat)
    case atStart => exact ⟨0, 0, Nat.zero_le _, rfl, rfl, by simp [Hid]⟩
    case round =>
      obtain ⟨k, q, hk, rfl, rfl, HE⟩ := hrel
      by_cases hlt : k < n0
      · obtain ⟨b, off, x, rfl, e0, HX⟩ := h0.at k hlt
        obtain ⟨b', off', y, rfl, e1, HY⟩ := h1.at k hlt
        by_cases heq : x = y
        · subst heq
          go_wp2
          go_quiet (fail)
          go_wp2
          go_roundw
          case rel => exact ⟨k + 1, q + nq, by omega, by go_num, by simp, by show _ = _; rw [take_snoc HX.out, take_snoc HY.out, HE.out]⟩
          case measure => simp [intOf]; omega
        · have hne : (x != y) = true := by simpa using heq
          go_wp2
          go_quiet (fail)
          go_wp2
          go_ret
          exact ⟨ret_bool (by simp; intro e; subst e; have := HX.out.symm.trans HY.out; simp at this; exact heq this), q + nq, by simp⟩
      · go_wp2
        go_ret
        have hkn : k = n0 := by omega
        subst hkn
        exact ⟨ret_bool (by simp; exact eq_of_takes h0.len h1.len HE.out), q, rfl⟩
  · go_enter Try.func16, Try.ntmps16
    go_wp2
    go_ret
    exact ⟨ret_bool (by simp; intro e; subst e; exact hlen (h0.len.symm.trans h1.len)), 0, rfl⟩

set_option maxHeartbeats 400000 in
theorem equalBytes (a0 a1 : Option Addr) (n0 c0 n1 c1 : Nat) (xs ys : List Int) (w : World) (h0 : Row .u8 w a0 n0 xs) (h1 : Row .u8 w a1 n1 ys) (hn : n0 ≤ 1000000000) :
    Calls Try.prog 25 #[.slice a0 n0 c0, .slice a1 n1 c1] w fun e w' => e = .returned (.bool (decide (xs = ys))) ∧ ∃ q, w' = w.drewN q := by
  by_cases hlen : n0 = n1
  · subst hlen
    go_enter Try.func25, Try.ntmps25
    go_wp2
    go_loopw [5] (fun i wr => ∃ k q : Nat, k ≤ n0 ∧ i = .int .i64 k ∧ wr = w.drewN q ∧ Hid (xs.take k = ys.take k)) (fun i _ => n0 - (intOf i).toNat)
    case atStart => exact ⟨0, 0, Nat.zero_le _, rfl, rfl, by simp [Hid]⟩
    case round =>
      obtain ⟨k, q, hk, rfl, rfl, HE⟩ := hrel
      by_cases hlt : k < n0
      · obtain ⟨b, off, x, rfl, e0, HX⟩ := h0.at k hlt
        obtain ⟨b', off', y, rfl, e1, HY⟩ := h1.at k hlt
        by_cases heq : x = y
        · subst heq
          go_wp2
          go_quiet (fail)
          go_wp2
          go_roundw
          case rel => exact ⟨k + 1, q + nq, by omega, by go_num, by simp, by show _ = _; rw [take_snoc HX.out, take_snoc HY.out, HE.out]⟩
          case measure => simp [intOf]; omega
        · have hne : (x != y) = true := by simpa using heq
          go_wp2
          go_quiet (fail)
          go_wp2
          go_ret
          exact ⟨ret_bool (by simp; intro e; subst e; have := HX.out.symm.trans HY.out; simp at this; exact heq this), q + nq, by simp⟩
      · go_wp2
        go_ret
        have hkn : k = n0 := by omega
        subst hkn
        exact ⟨ret_bool (by simp; exact eq_of_takes h0.len h1.len HE.out), q, rfl⟩
  · go_enter Try.func25, Try.ntmps25
    go_wp2
    go_ret
    exact ⟨ret_bool (by simp; intro e; subst e; exact hlen (h0.len.symm.trans h1.len)), 0, rfl⟩

/-- Some run among the first k shares a number with [a, b). -/
def OverTo (lo hi : List Int) (a b : Int) (k : Nat) : Prop := ∃ (i : Nat) (x y : Int), i < k ∧ lo[i]? = some x ∧ hi[i]? = some y ∧ x < b ∧ a < y ∧ a < b ∧ x < y

theorem not_over_succ {lo hi : List Int} {a b : Int} {k : Nat} {x y : Int} (h : ¬ OverTo lo hi a b k) (hx : lo[k]? = some x) (hy : hi[k]? = some y) (hn : ¬ (x < b ∧ a < y ∧ a < b ∧ x < y)) : Hid (¬ OverTo lo hi a b (k + 1)) := by
  rintro ⟨i, x', y', hi', h1, h2, h3⟩
  by_cases e : i = k
  · subst e
    rw [hx] at h1; rw [hy] at h2
    cases h1; cases h2
    exact hn h3
  · exact h ⟨i, x', y', by omega, h1, h2, h3⟩

/-- It returns a bool that is true just where 'P' holds; the world is as it was. -/
def Says (P : Prop) (w : World) (e : Ending) (w' : World) : Prop := ∃ r : Bool, e = .returned (.bool r) ∧ (r = true ↔ P) ∧ w' = w

set_option maxHeartbeats 400000 in
theorem overlaps15 (a0 a1 : Option Addr) (n0 c0 c1 : Nat) (lo hi : List Int) (p q : Int) (w : World) (h0 : Row .i64 w a0 n0 lo) (h1 : Row .i64 w a1 n0 hi) (hn : n0 ≤ 1000000000) :
    Calls Try.prog 15 #[.slice a0 n0 c0, .slice a1 n0 c1, .int .i64 p, .int .i64 q] w (Says (OverTo lo hi p q n0) w) := by
  go_enter Try.func15, Try.ntmps15
  go_wp2
  go_loop [9] (fun i => ∃ k : Nat, k ≤ n0 ∧ i = .int .i64 k ∧ Hid (¬ OverTo lo hi p q k)) (fun i => n0 - (intOf i).toNat)
  case atStart => exact ⟨0, Nat.zero_le _, rfl, by rintro ⟨i, x, y, h, _⟩; omega⟩
  case round =>
    obtain ⟨k, hk, rfl, HE⟩ := hrel
    by_cases hlt : k < n0
    · obtain ⟨b, off, x, rfl, e0, HX⟩ := h0.at k hlt
      obtain ⟨b', off', y, rfl, e1, HY⟩ := h1.at k hlt
      by_cases d1 : x < p
      all_goals by_cases d2 : q < y
      all_goals go_wp2
      all_goals first
        | (go_ret; exact ⟨true, rfl, ⟨fun _ => ⟨k, x, y, hlt, HX.out, HY.out, by omega, by omega, by omega, by omega⟩, fun _ => rfl⟩, rfl⟩)
        | (go_round
           case rel => exact ⟨k + 1, by omega, by go_num, not_over_succ HE.out HX.out HY.out (by omega)⟩
           case measure => simp [intOf]; omega)
    · go_wp2
      go_ret
      obtain rfl : k = n0 := by omega
      exact ⟨false, rfl, ⟨fun h => (by cases h), fun h => absurd h HE.out⟩, rfl⟩

/-- Some bool; the world is as it was. -/
def AnyBool (w : World) (e : Ending) (w' : World) : Prop := ∃ r : Bool, e = .returned (.bool r) ∧ w' = w

set_option maxHeartbeats 400000 in
theorem bytes10 (a0 a1 : Option Addr) (n0 c0 n1 c1 : Nat) (x y z : Int) (w : World) (h0 : n0 ≤ maxLen) (h1 : n1 ≤ maxLen) :
    Calls Try.prog 10 #[.slice a0 n0 c0, .slice a1 n1 c1, .int .i64 x, .int .i64 y, .int .i64 z] w (AnyBool w) := by
  unfold maxLen at h0 h1
  go_enter Try.func10, Try.ntmps10
  go_wp2
  all_goals (go_ret; exact ⟨_, rfl, rfl⟩)
set_option maxHeartbeats 400000 in
theorem bytes47 (a0 a1 : Option Addr) (n0 c0 n1 c1 : Nat) (x y z : Int) (w : World) (h0 : n0 ≤ maxLen) (h1 : n1 ≤ maxLen) :
    Calls Try.prog 47 #[.slice a0 n0 c0, .slice a1 n1 c1, .int .i64 x, .int .i64 y, .int .i64 z] w (AnyBool w) := by
  unfold maxLen at h0 h1
  go_enter Try.func47, Try.ntmps47
  go_wp2
  all_goals (go_ret; exact ⟨_, rfl, rfl⟩)
set_option maxHeartbeats 400000 in
theorem bytes18 (a0 a1 : Option Addr) (n0 c0 n1 c1 : Nat) (x : Int) (w : World) (h0 : n0 ≤ maxLen) (h1 : n1 ≤ maxLen) :
    Calls Try.prog 18 #[.slice a0 n0 c0, .slice a1 n1 c1, .int .i64 x] w (AnyBool w) := by
  unfold maxLen at h0 h1
  go_enter Try.func18, Try.ntmps18
  go_wp2
  all_goals (go_ret; exact ⟨_, rfl, rfl⟩)
set_option maxHeartbeats 400000 in
theorem bytes31 (a0 a1 : Option Addr) (n0 c0 n1 c1 : Nat) (x : Int) (w : World) (h0 : n0 ≤ maxLen) (h1 : n1 ≤ maxLen) :
    Calls Try.prog 31 #[.slice a0 n0 c0, .slice a1 n1 c1, .int .i64 x] w (AnyBool w) := by
  unfold maxLen at h0 h1
  go_enter Try.func31, Try.ntmps31
  go_wp2
  all_goals (go_ret; exact ⟨_, rfl, rfl⟩)
set_option maxHeartbeats 400000 in
theorem bytes46 (t : Bool) (a0 a1 a2 a3 : Option Addr) (n0 c0 n1 c1 n2 c2 n3 c3 : Nat) (x y z : Int) (w : World) (h0 : n0 ≤ maxLen) (h1 : n1 ≤ maxLen) (h2 : n2 ≤ maxLen) (h3 : n3 ≤ maxLen) :
    Calls Try.prog 46 #[.bool t, .slice a0 n0 c0, .slice a1 n1 c1, .slice a2 n2 c2, .slice a3 n3 c3, .int .i64 x, .int .i64 y, .int .u8 z] w (AnyBool w) := by
  unfold maxLen at h0 h1 h2 h3
  go_enter Try.func46, Try.ntmps46
  go_wp2
  all_goals (go_ret; exact ⟨_, rfl, rfl⟩)

end Go.Proofs.Qxb6600404a
