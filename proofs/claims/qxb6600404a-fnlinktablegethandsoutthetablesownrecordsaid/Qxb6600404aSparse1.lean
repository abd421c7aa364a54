/-
  Seat b6600404a: the premises of the sparse table's law: zzInRunsLinear, zzDistinct, zzInRunsBisect, zzSparseOK.
-/
import Derived.Test.Qxb6600404aDense1
namespace Go.Proofs.Qxb6600404a
open Go.RowKit
set_option linter.unusedVariables false
set_option linter.unusedSimpArgs false

def InRuns (lo hi : List Int) (j : Int) : Prop := ∃ q ∈ lo.zip hi, q.1 ≤ j ∧ j < q.2

set_option maxHeartbeats 400000 in
theorem linear41 (a0 a1 : Option Addr) (n0 c0 c1 : Nat) (lo hi : List Int) (j : Int) (w : World) (h0 : Row .i64 w a0 n0 lo) (h1 : Row .i64 w a1 n0 hi) (hn0 : n0 ≤ 1000000000) :
    Calls Try.prog 41 #[.slice a0 n0 c0, .slice a1 n0 c1, .int .i64 j] w (Grants (InRuns lo hi j) w) := by
  go_enter Try.func41, Try.ntmps41
  go_wp2
  go_loop [7] (fun i => ∃ k : Nat, k ≤ n0 ∧ i = .int .i64 k) (fun i => n0 - (intOf i).toNat)
  case atStart => exact ⟨0, Nat.zero_le _, rfl⟩
  case round =>
    obtain ⟨k, hk, rfl⟩ := hrel
    by_cases hlt : k < n0
    · obtain ⟨b, off, x, rfl, e0, HX⟩ := h0.at k hlt
      obtain ⟨b', off', y, rfl, e1, HY⟩ := h1.at k hlt
      by_cases hx : x ≤ j
      · by_cases hy : j < y
        · go_wp2
          go_ret
          exact ⟨true, rfl, fun _ => ⟨(x, y), List.mem_of_getElem? (i := k) (List.getElem?_zip_eq_some.2 ⟨HX.out, HY.out⟩), hx, hy⟩, 0, rfl⟩
        · go_wp2
          go_round
          case rel => exact ⟨k + 1, by omega, by go_num⟩
          case measure => simp [intOf]; omega
      · go_wp2
        go_round
        case rel => exact ⟨k + 1, by omega, by go_num⟩
        case measure => simp [intOf]; omega
    · go_wp2
      go_ret
      exact ⟨false, rfl, fun h => (by cases h), 0, rfl⟩

/-- No number stands twice. -/
def Dist (xs : List Int) : Prop := ∀ (i k : Nat) (x y : Int), i < k → xs[i]? = some x → xs[k]? = some y → x ≠ y

set_option maxHeartbeats 1000000 in
theorem distinct53 (a0 : Option Addr) (n0 c0 : Nat) (xs : List Int) (w : World) (h0 : Row .i64 w a0 n0 xs) (hn0 : n0 ≤ 1000000000) :
    Calls Try.prog 53 #[.slice a0 n0 c0] w (Grants (Dist xs) w) := by
  have HLN := hid h0.len
  go_enter Try.func53, Try.ntmps53
  go_wp2
  go_loopw [3, 4] (fun i _ wr => ∃ k q : Nat, k ≤ n0 ∧ i = .int .i64 k ∧ wr = w.drewN q ∧ Hid (∀ (i l : Nat) (x y : Int), i < k → i < l → xs[i]? = some x → xs[l]? = some y → x ≠ y)) (fun i _ _ => n0 - (intOf i).toNat)
  case atStart => exact ⟨0, 0, Nat.zero_le _, rfl, rfl, fun i l x y h => by omega⟩
  case round =>
    obtain ⟨k, q, hk, rfl, rfl, HE⟩ := hrel
    by_cases hlt : k < n0
    · obtain ⟨b, off, x, rfl, e0, HX⟩ := h0.at k hlt
      go_wp2
      go_loopw [4] (fun i wr => ∃ m q' : Nat, k + 1 ≤ m ∧ m ≤ n0 ∧ i = .int .i64 m ∧ wr = w.drewN q' ∧ Hid (∀ (l : Nat) (y : Int), k < l → l < m → xs[l]? = some y → x ≠ y)) (fun i _ => n0 - (intOf i).toNat)
      case atStart => exact ⟨k + 1, q, Nat.le_refl _, hlt, by go_num, rfl, fun l y h h' => by omega⟩
      case round =>
        obtain ⟨m, q', hm1, hm, rfl, rfl, HI⟩ := hrel
        by_cases hlt2 : m < n0
        · obtain ⟨b', off', y, eb, e1, HY⟩ := h0.at m hlt2
          simp only [Option.some.injEq, Addr.mk.injEq, and_true] at eb
          obtain ⟨rfl, rfl⟩ := eb
          by_cases hxy : x = y
          · have hb : (x == y) = true := by simpa using hxy
            clear hxy
            go_wp2
            go_quiet (fail)
            go_wp2
            go_ret
            exact ⟨false, rfl, fun h => (by cases h), _, by simp only [World.drewN_drewN]; rfl⟩
          · have hb : (x == y) = false := by simpa using hxy
            have HXY := hid hxy
            clear hxy
            go_wp2
            go_quiet (fail)
            go_wp2
            go_roundw
            case rel => exact ⟨m + 1, _, by omega, by omega, by go_num, rfl, fun l z h1 h2 h3 => by
              by_cases e : l = m
              · subst e; rw [HY.out] at h3; cases h3; exact HXY.out
              · exact HI.out l z h1 (by omega) h3⟩
            case measure => simp [intOf]; omega
        · go_wp2
          go_roundw
          case rel => exact ⟨k + 1, q', by omega, by go_num, rfl, fun i l x' y h1 h2 h3 h4 => by
            by_cases e : i = k
            · subst e
              rw [HX.out] at h3
              cases h3
              have := (List.getElem?_eq_some_iff.1 h4).1
              rw [HLN.out] at this
              exact HI.out l y h2 (by omega) h4
            · exact HE.out i l x' y (by omega) h2 h3 h4⟩
          case measure => simp [intOf]; omega
    · go_wp2
      go_ret
      exact ⟨true, rfl, fun _ i l x y h1 h2 h3 => HE.out i l x y (by have := (List.getElem?_eq_some_iff.1 h2).1; rw [HLN.out] at this; omega) h1 h2 h3, q, rfl⟩

set_option maxHeartbeats 1000000 in
theorem bisect54 (a0 a1 : Option Addr) (n0 c0 c1 : Nat) (lo hi : List Int) (j : Int) (w : World) (h0 : Row .i64 w a0 n0 lo) (h1 : Row .i64 w a1 n0 hi) (hn0 : n0 ≤ 1000000000) :
    Calls Try.prog 54 #[.slice a0 n0 c0, .slice a1 n0 c1, .int .i64 j] w (AnyBool w) := by
  go_enter Try.func54, Try.ntmps54
  go_wp2
  go_loop [7, 8, 9] (fun i k _ => ∃ i' k' : Nat, i' ≤ k' ∧ k' ≤ n0 ∧ i = .int .i64 i' ∧ k = .int .i64 k') (fun i k _ => (intOf k - intOf i).toNat)
  case atStart => exact ⟨0, n0, Nat.zero_le _, Nat.le_refl _, rfl, rfl⟩
  case round =>
    obtain ⟨i, k, hik, hkn, rfl, rfl⟩ := hrel
    by_cases hlt : i < k
    · obtain ⟨b, off, x, rfl, e0, HX⟩ := h0.at (i + (k - i) / 2) (by omega)
      obtain ⟨b', off', y, rfl, e1, HY⟩ := h1.at (i + (k - i) / 2) (by omega)
      by_cases hy : y ≤ j
      · go_wp2
        go_round
        case rel => exact ⟨i + (k - i) / 2 + 1, k, by omega, hkn, by go_num, rfl⟩
        case measure => simp [intOf]; omega
      · by_cases hx : j < x
        · go_wp2
          go_round
          case rel => exact ⟨i, i + (k - i) / 2, by omega, by omega, rfl, by go_num⟩
          case measure => simp [intOf]; omega
        · go_wp2
          go_ret
          exact ⟨true, rfl, rfl⟩
    · go_wp2
      go_ret
      exact ⟨false, rfl, rfl⟩

/-- What zzSparseOK grants. -/
def SparseOK (n0 n1 n2 n3 : Nat) (ps lo hi : List Int) (n : Int) : Prop := n0 = n1 ∧ n2 = n3 ∧ CanonTo lo hi n2 ∧ 0 ≤ n ∧ n ≤ 2305843009213693950 ∧ Dist ps

set_option maxHeartbeats 1000000 in
theorem sparseOK36 (a0 a1 a2 a3 : Option Addr) (n0 c0 n1 c1 n2 c2 n3 c3 : Nat) (ps lo hi : List Int) (n : Int) (w : World) (h0 : Row .i64 w a0 n0 ps) (h2 : Row .i64 w a2 n2 lo) (h3 : Row .i64 w a3 n3 hi) (hn0 : n0 ≤ 1000000) (hn1 : n1 ≤ 1000000) (hn2 : n2 ≤ 1000000) (hn3 : n3 ≤ 1000000) :
    Calls Try.prog 36 #[.slice a0 n0 c0, .slice a1 n1 c1, .slice a2 n2 c2, .slice a3 n3 c3, .int .i64 n] w (Grants (SparseOK n0 n1 n2 n3 ps lo hi n) w) := by
  by_cases hlen : n0 = n1
  · subst hlen
    go_enter Try.func36, Try.ntmps36
    go_wp2_with fail
    refine (canonical a2 a3 n2 c2 n3 c3 lo hi n w h2 h3 (by omega) (by omega)).mono ?_
    rintro e _ ⟨r, rfl, hr, q1, rfl⟩
    cases r with
    | false =>
      clear hr
      go_wp2
      go_ret
      exact ⟨false, rfl, fun h => (by cases h), q1, rfl⟩
    | true =>
      have HR := hid (hr rfl)
      clear hr
      go_wp2_with fail
      refine (distinct53 a0 n0 c0 ps _ (h0.drewN q1) (by omega)).mono ?_
      rintro e _ ⟨r, rfl, hr, q2, rfl⟩
      cases r with
      | false =>
        clear hr
        go_wp2
        go_ret
        exact ⟨false, rfl, fun h => (by cases h), _, rfl⟩
      | true =>
        have HD := hid (hr rfl)
        clear hr
        obtain rfl : n2 = n3 := HR.out.1
        go_wp2
        go_loop [11] (fun i => ∃ k : Nat, k ≤ n0 ∧ i = .int .i64 k) (fun i => n0 - (intOf i).toNat)
        case atStart => exact ⟨0, Nat.zero_le _, rfl⟩
        case round =>
          obtain ⟨k, hk, rfl⟩ := hrel
          by_cases hlt : k < n0
          · obtain ⟨b, off, x, rfl, e0, HX⟩ := h0.at k hlt
            go_wp2_with fail
            refine (bisect54 a2 a3 n2 c2 c3 lo hi x _ (h2.drewN (q1 + q2)) (h3.drewN (q1 + q2)) (by omega)).mono ?_
            rintro e w' ⟨r, rfl, rfl⟩
            cases r with
            | false =>
              go_wp2
              go_ret
              exact ⟨false, rfl, fun h => (by cases h), _, rfl⟩
            | true =>
              go_wp2
              go_round
              case rel => exact ⟨k + 1, by omega, by go_num⟩
              case measure => simp [intOf]; omega
          · go_wp2
            go_ret
            exact ⟨true, rfl, fun _ => ⟨by trivial, by trivial, HR.out.2.1, HR.out.2.2.1, HR.out.2.2.2, HD.out⟩, _, rfl⟩
  · have hlb : ((n0 : Int) != (n1 : Int)) = true := by simp; omega
    go_enter Try.func36, Try.ntmps36
    go_wp2
    go_ret
    exact ⟨false, rfl, fun h => (by cases h), 0, rfl⟩

end Go.Proofs.Qxb6600404a
