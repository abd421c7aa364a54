/-
  Seat b6601147a: the walk of FnCoprimesAreExactlyFullCycleStrides.
-/
import Derived.Test.Qxb6601147aCop2
namespace Go.Proofs.Qxb6601147a
open Go.RowKit
set_option linter.unusedVariables false
set_option linter.unusedSimpArgs false

/-- A row of integers that a call owns reads as those integers. -/
theorem row_owned {w : World} {B : Nat} {k : IntKind} {e : TypeId} {v : Value} {xs : List Int} (h : w.ownsRow B e 1 v xs.length (ints k xs)) : ∃ a cap, v = .slice a xs.length cap ∧ Row k w a xs.length xs := by
  rcases ownsRow_form h with ⟨rfl, h0, _⟩ | ⟨g, cap, rest, rfl, hg, hnc, hcm, hl, hl2, hblk⟩
  · obtain rfl : xs = [] := List.eq_nil_of_length_eq_zero h0
    exact ⟨none, 0, rfl, ⟨rfl, fun h => absurd h (by simp)⟩⟩
  · exact ⟨some ⟨g, 0, none⟩, cap, rfl, Row.of_blk hblk rfl⟩

set_option maxHeartbeats 4000000 in
set_option maxRecDepth 100000 in
theorem topF_in (n : Nat) (h1 : 1 ≤ n) (h2 : n ≤ 1024) (w : World) :
    Calls Try.prog 4 #[.int .i64 n] w fun e w' => e = .returned (.bool true) ∧ Below w.heap.size w w' := by
  go_enter Try.func4, Try.ntmps4
  go_wp2_with fail
  refine (zzcoprimes6 n (by omega) w).mono ?_
  rintro e w1 ⟨v, rfl, hown, hb, _⟩
  obtain ⟨a, cap, rfl, hrow⟩ := row_owned hown
  have HB := hid hb
  clear hown hb
  generalize hN : (cops n n).length = N at hrow
  have HN := hid hN
  have hNn : N ≤ n := by rw [← hN]; exact cops_le n n
  clear hN
  go_wp2
  go_loopw [4, 5, 6, 7] (fun j c _ _ wr => ∃ k l : Nat, k ≤ n ∧ l ≤ N ∧ c = .int .i64 (k + 1 : Nat) ∧ j = .int .i64 l ∧ wr = w1 ∧ Hid (l = (cops n k).length)) (fun _ c _ _ _ => n + 1 - (intOf c).toNat)
  case atStart => exact ⟨0, 0, Nat.zero_le _, Nat.zero_le _, rfl, rfl, rfl, rfl⟩
  case round =>
    obtain ⟨k, l, hk, hlN, rfl, rfl, rfl, HL⟩ := hrel
    by_cases hlt : k < n
    · go_wp2
      go_loopw [6, 7] (fun pos st wx => ∃ s x : Nat, 1 ≤ s ∧ s ≤ n ∧ x < n ∧ pos = .int .i64 x ∧ st = .int .i64 s ∧ wx = wr ∧ Hid (x = (s * (k + 1)) % n) ∧ Hid (NoBack n (k + 1) s)) (fun _ st _ => n - (intOf st).toNat)
      case atStart => exact ⟨1, (k + 1) % n, Nat.le_refl _, h1, Nat.mod_lt _ h1, by go_num, rfl, by trivial, by show _ = _; rw [Nat.one_mul], fun t h h' => by omega⟩
      case round =>
        obtain ⟨s, x, hs1, hsn, hxn, rfl, rfl, rfl, HX, HB'⟩ := hrel
        by_cases hx : x = 0
        · subst hx
          by_cases hse : s = n
          · have HSN := hid hse
            have hse' : ((s : Int) == (n : Int)) = true := by simp; omega
            clear hse
            have HG : Hid (Nat.gcd (k + 1) n = 1) := (full_cycle h1 (by omega) hs1 hsn HB'.out (.inl HX.out.symm)).1 HSN.out
            have hlN1 : l + 1 ≤ N := by
              have e1 := cops_hit HG.out
              have e2 := cops_mono (n := n) (k := k + 1) (m := n) (by omega)
              have e3 := HL.out
              have e4 := HN.out
              omega
            obtain ⟨b, off, y, rfl, e0, HY⟩ := hrow.at l (by omega)
            have hy : y = ((k + 1 : Nat) : Int) := by
              have e1 := cops_at (m := n) (by omega) HG.out
              rw [← HL.out, HY.out] at e1
              simpa using e1
            subst hy
            go_wp2
            go_roundw
            case rel => exact ⟨k + 1, l + 1, by omega, hlN1, by go_num, by go_num, by trivial, by show _ = _; rw [cops_hit HG.out, ← HL.out]⟩
            case measure => simp [intOf]; omega
          · have HG : Hid (Nat.gcd (k + 1) n ≠ 1) := fun h => hse ((full_cycle h1 (by omega) hs1 hsn HB'.out (.inl HX.out.symm)).2 h)
            have hse' : ((s : Int) == (n : Int)) = false := by simp; omega
            clear hse
            go_wp2
            go_roundw
            case rel => exact ⟨k + 1, l, by omega, hlN, by go_num, rfl, by trivial, by show _ = _; rw [cops_miss HG.out, ← HL.out]⟩
            case measure => simp [intOf]; omega
        · by_cases hs : s < n
          · have hxb : ((x : Int) != 0) = true := by simp; omega
            have HX0 := hid hx
            clear hx
            go_wp2
            go_roundw
            case rel => exact ⟨s + 1, (x + (k + 1)) % n, by omega, by omega, Nat.mod_lt _ h1, by go_num, by go_num, by trivial, by show _ = _; rw [HX.out, Nat.mod_add_mod, Nat.succ_mul], fun t h1' h2' => by
              by_cases e : t = s
              · subst e; rw [← HX.out]; exact HX0.out
              · exact HB'.out t h1' (by omega)⟩
            case measure => simp [intOf]; omega
          · have hse : s = n := by omega
            have HSN := hid hse
            have hse' : ((s : Int) == (n : Int)) = true := by simp; omega
            have hxb : ((x : Int) != 0) = true := by simp; omega
            clear hse hx
            have HG : Hid (Nat.gcd (k + 1) n = 1) := (full_cycle h1 (by omega) hs1 hsn HB'.out (.inr HSN.out)).1 HSN.out
            have hlN1 : l + 1 ≤ N := by
              have e1 := cops_hit HG.out
              have e2 := cops_mono (n := n) (k := k + 1) (m := n) (by omega)
              have e3 := HL.out
              have e4 := HN.out
              omega
            obtain ⟨b, off, y, rfl, e0, HY⟩ := hrow.at l (by omega)
            have hy : y = ((k + 1 : Nat) : Int) := by
              have e1 := cops_at (m := n) (by omega) HG.out
              rw [← HL.out, HY.out] at e1
              simpa using e1
            subst hy
            go_wp2
            go_roundw
            case rel => exact ⟨k + 1, l + 1, by omega, hlN1, by go_num, by go_num, by trivial, by show _ = _; rw [cops_hit HG.out, ← HL.out]⟩
            case measure => simp [intOf]; omega
    · obtain rfl : k = n := by omega
      have hle : ((l : Int) == (N : Int)) = true := by have e1 := HL.out; have e2 := HN.out; simp; omega
      go_wp2
      go_ret
      exact ⟨rfl, HB.out⟩

set_option maxHeartbeats 4000000 in
theorem topF (n : Int) (w : World) :
    Calls Try.prog 4 #[.int .i64 n] w fun e w' => e = .returned (.bool true) ∧ Below w.heap.size w w' := by
  by_cases h1 : 1 ≤ n
  · by_cases h2 : n ≤ 1024
    · obtain ⟨m, rfl⟩ := Int.eq_ofNat_of_zero_le (show 0 ≤ n by omega)
      exact topF_in m (by omega) (by omega) w
    · go_enter Try.func4, Try.ntmps4
      go_wp2
      go_ret
      exact ⟨rfl, Below.refl _ _⟩
  · go_enter Try.func4, Try.ntmps4
    go_wp2
    go_ret
    exact ⟨rfl, Below.refl _ _⟩

end Go.Proofs.Qxb6601147a
