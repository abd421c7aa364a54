/-
  Seat b6600404a: zzBytes.., zzCanonicalRuns: what they say where they say true.
-/
import Derived.Test.Qxb6600404aKit
namespace Go.Proofs.Qxb6600404a
open Go.RowKit

/-- The first k runs are canonical: bounded, not empty, ascending with a gap. -/
def CanonTo (lo hi : List Int) (k : Nat) : Prop :=
  ∀ i, i < k → ∃ x y, lo[i]? = some x ∧ hi[i]? = some y ∧ -1152921504606846975 ≤ x ∧ y ≤ 1152921504606846975 ∧ x < y ∧ ∀ j, i = j + 1 → ∃ z, hi[j]? = some z ∧ z < x

theorem canonTo_zero (lo hi : List Int) : CanonTo lo hi 0 := fun i h => absurd h (Nat.not_lt_zero i)

theorem canonTo_succ {lo hi : List Int} {k : Nat} {x y : Int} (h : CanonTo lo hi k) (hx : lo[k]? = some x) (hy : hi[k]? = some y) (h1 : -1152921504606846975 ≤ x) (h2 : y ≤ 1152921504606846975) (h3 : x < y)
    (h4 : ∀ j, k = j + 1 → ∃ z, hi[j]? = some z ∧ z < x) : CanonTo lo hi (k + 1) := by
  intro i hi'
  by_cases e : i = k
  · subst e; exact ⟨x, y, hx, hy, h1, h2, h3, h4⟩
  · exact h i (by omega)

theorem last_at {hi : List Int} {k : Nat} {y S : Int} (h : hi[k]? = some y) (hS : S ≤ y + 1152921504606846975) : Hid (∀ j, k + 1 = j + 1 → ∃ z, hi[j]? = some z ∧ S ≤ z + 1152921504606846975) := by
  intro j hj
  obtain rfl : j = k := by omega
  exact ⟨y, h, hS⟩
theorem last_zero {hi : List Int} {y S : Int} (h : hi[0]? = some y) (hS : S ≤ y + 1152921504606846975) : Hid (∀ j, 1 = j + 1 → ∃ z, hi[j]? = some z ∧ S ≤ z + 1152921504606846975) := last_at h hS

theorem prev_at {hi : List Int} {j : Nat} {x z : Int} (h : hi[j]? = some z) (hz : z < x) : ∀ j', j + 1 = j' + 1 → ∃ z, hi[j']? = some z ∧ z < x := by
  intro j' hj
  obtain rfl : j' = j := by omega
  exact ⟨z, h, hz⟩

set_option maxHeartbeats 1000000 in
theorem canonical (a0 a1 : Option Addr) (n0 c0 n1 c1 : Nat) (lo hi : List Int) (n : Int) (w : World) (h0 : Row .i64 w a0 n0 lo) (h1 : Row .i64 w a1 n1 hi) (hn0 : n0 ≤ 1000000000) (hn1 : n1 ≤ 1000000000) :
    Calls Try.prog 11 #[.slice a0 n0 c0, .slice a1 n1 c1, .int .i64 n] w fun e w' => ∃ r : Bool, e = .returned (.bool r) ∧ (r = true → n0 = n1 ∧ CanonTo lo hi n0 ∧ 0 ≤ n ∧ n ≤ 2305843009213693950) ∧ ∃ q, w' = w.drewN q := by
  by_cases hlen : n0 = n1
  · subst hlen
    go_enter Try.func11, Try.ntmps11
    go_wp2
    go_loopw [7, 8] (fun s i wr => ∃ (k q : Nat) (S : Int), k ≤ n0 ∧ i = .int .i64 k ∧ s = .int .i64 S ∧ wr = w.drewN q ∧ Hid (CanonTo lo hi k) ∧ 0 ≤ S ∧ S ≤ 2305843009213693950 ∧ Hid (∀ j, k = j + 1 → ∃ z, hi[j]? = some z ∧ S ≤ z + 1152921504606846975) ∧ Hid (k = 0 → S = 0)) (fun _ i _ => n0 - (intOf i).toNat)
    case atStart => exact ⟨0, 0, 0, Nat.zero_le _, rfl, rfl, rfl, canonTo_zero _ _, by omega, by omega, fun j h => by omega, fun _ => rfl⟩
    case round =>
      obtain ⟨k, q, S, hk, rfl, rfl, rfl, HC, hS0, hS1, HS, HS0⟩ := hrel
      by_cases hlt : k < n0
      · obtain ⟨b, off, x, rfl, e0, HX⟩ := h0.at k hlt
        obtain ⟨b', off', y, rfl, e1, HY⟩ := h1.at k hlt
        by_cases c1 : x < -1152921504606846975
        · go_wp2
          go_quiet (fail)
          go_wp2
          go_ret
          exact ⟨false, rfl, fun h => (by cases h), q + nq, by simp⟩
        · have d1 : decide (x < -1152921504606846975) = false := by simpa using c1
          by_cases c2 : 1152921504606846975 < y
          · go_wp2
            go_quiet (fail)
            go_wp2
            go_ret
            exact ⟨false, rfl, fun h => (by cases h), q + nq, by simp⟩
          · have d2 : decide (1152921504606846975 < y) = false := by simpa using c2
            by_cases c3 : y ≤ x
            · go_wp2
              go_quiet (fail)
              go_wp2
              go_ret
              exact ⟨false, rfl, fun h => (by cases h), q + nq, by simp⟩
            · have d3 : decide (y ≤ x) = false := by simpa using c3
              by_cases c4 : k = 0
              · subst c4
                simp only [Nat.add_zero] at e0 e1
                obtain rfl : S = 0 := HS0.out rfl
                go_wp2
                go_quiet (fail)
                go_wp2
                go_quiet (fail)
                go_wp2
                go_quiet (fail)
                go_wp2
                go_roundw
                case rel => exact ⟨1, _, _, by omega, by go_num, rfl, rfl, canonTo_succ HC.out HX.out HY.out (by omega) (by omega) (by omega) (fun j h => by omega), by omega, by omega, last_zero HY.out (by omega), fun h => by omega⟩
                case measure => simp [intOf]; omega
              · obtain ⟨j, rfl⟩ : ∃ j, k = j + 1 := ⟨k - 1, by omega⟩
                obtain ⟨bz, offz, z, eb, e2, HZ⟩ := h1.at j (by omega)
                simp only [Option.some.injEq, Addr.mk.injEq, and_true] at eb
                obtain ⟨rfl, rfl⟩ := eb
                have hs1 : S ≤ z + 1152921504606846975 := by
                  obtain ⟨z', hz', hle⟩ := HS.out j rfl
                  have := HZ.out.symm.trans hz'
                  simp at this
                  omega
                by_cases d5 : x ≤ z
                · go_wp2
                  go_quiet (fail)
                  go_wp2
                  go_quiet (fail)
                  go_wp2
                  go_ret
                  exact ⟨false, rfl, fun h => (by cases h), _, by simp only [World.drewN_drewN]; rfl⟩
                · have d5' : decide (x ≤ z) = false := by simpa using d5
                  go_wp2
                  go_quiet (fail)
                  go_wp2
                  go_quiet (fail)
                  go_wp2
                  go_quiet (fail)
                  go_wp2
                  go_roundw
                  case rel => exact ⟨j + 2, _, _, by omega, by go_num, rfl, rfl, canonTo_succ HC.out HX.out HY.out (by omega) (by omega) (by omega) (prev_at HZ.out (by omega)), by omega, by omega, last_at HY.out (by omega), fun h => by omega⟩
                  case measure => simp [intOf]; omega
      · go_wp2
        go_ret
        have hkn : k = n0 := by omega
        subst hkn
        refine ⟨_, rfl, fun h => ?_, q, rfl⟩
        have : S = n := by simpa using h
        subst this
        exact ⟨trivial, HC.out, hS0, hS1⟩
  · go_enter Try.func11, Try.ntmps11
    go_wp2
    go_ret
    exact ⟨false, rfl, fun h => (by cases h), 0, rfl⟩

end Go.Proofs.Qxb6600404a
