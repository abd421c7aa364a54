/-
  Seat b6601147a: ZZcoprimes; plain laws on the list of the coprimes; a stride comes round first after n steps iff it is coprime to n.
-/
import Derived.Test.Qxb6601147aCop
namespace Go.Proofs.Qxb6601147a
open Go.RowKit
set_option linter.unusedVariables false
set_option linter.unusedSimpArgs false

set_option maxHeartbeats 400000 in
theorem zzcoprimes6 (n : Nat) (hn : n ≤ 65536) (w : World) :
    Calls Try.prog 6 #[.int .i64 n] w (CopPost n w) := by
  go_enter Try.func6, Try.ntmps6
  go_wp2_with fail
  refine (coprimes7 n hn w).mono ?_
  rintro e w' ⟨v, rfl, h⟩
  go_wp2
  go_ret
  exact ⟨v, rfl, h⟩

set_option maxHeartbeats 400000 in
theorem coprimes7_neg (n : Int) (hn : n ≤ 0) (w : World) :
    Calls Try.prog 7 #[.int .i64 n] w (fun e w' => e = .returned (.slice none 0 0) ∧ w' = w) := by
  go_enter Try.func7, Try.ntmps7
  go_wp2
  go_loopw [3, 4, 5, 6] (fun v c _ _ wr => v = .slice none 0 0 ∧ c = .int .i64 1 ∧ wr = w) (fun _ c _ _ _ => 0)
  case atStart => exact ⟨rfl, rfl, rfl⟩
  case round =>
    obtain ⟨rfl, rfl, rfl⟩ := hrel
    go_wp2
    go_ret
    exact ⟨rfl, rfl⟩

set_option maxHeartbeats 400000 in
theorem zzcoprimes6_neg (n : Int) (hn : n ≤ 0) (w : World) :
    Calls Try.prog 6 #[.int .i64 n] w (fun e w' => e = .returned (.slice none 0 0) ∧ w' = w) := by
  go_enter Try.func6, Try.ntmps6
  go_wp2_with fail
  refine (coprimes7_neg n hn w).mono ?_
  rintro e w' ⟨rfl, rfl⟩
  go_wp2
  go_ret
  exact ⟨rfl, rfl⟩

theorem cops_prefix (n k : Nat) : ∀ m, k ≤ m → ∃ t, cops n m = cops n k ++ t
  | 0, h => ⟨[], by obtain rfl : k = 0 := by omega
                    simp⟩
  | m + 1, h => by
    by_cases e : k = m + 1
    · subst e; exact ⟨[], by simp⟩
    · obtain ⟨t, ht⟩ := cops_prefix n k m (by omega)
      exact ⟨t ++ (if Nat.gcd (m + 1) n = 1 then [((m + 1 : Nat) : Int)] else []), by rw [cops, ht, List.append_assoc]⟩

/-- The next coprime lies at the next place. -/
theorem cops_at {n k m : Nat} (h : k + 1 ≤ m) (hg : Nat.gcd (k + 1) n = 1) : (cops n m)[(cops n k).length]? = some ((k + 1 : Nat) : Int) := by
  obtain ⟨t, ht⟩ := cops_prefix n (k + 1) m h
  rw [ht, cops, if_pos hg, List.append_assoc, List.getElem?_append_right (Nat.le_refl _), Nat.sub_self]
  rfl
theorem cops_mono {n k m : Nat} (h : k ≤ m) : (cops n k).length ≤ (cops n m).length := by
  obtain ⟨t, ht⟩ := cops_prefix n k m h
  rw [ht]; simp
theorem cops_hit {n k : Nat} (hg : Nat.gcd (k + 1) n = 1) : (cops n (k + 1)).length = (cops n k).length + 1 := by rw [cops, if_pos hg]; simp
theorem cops_miss {n k : Nat} (hg : Nat.gcd (k + 1) n ≠ 1) : (cops n (k + 1)).length = (cops n k).length := by rw [cops, if_neg hg]; simp

/-- A walk of stride c round n places: at step s (and at none before it, from 1 on) it has not yet come back to 0. -/
def NoBack (n c s : Nat) : Prop := ∀ t, 1 ≤ t → t < s → (t * c) % n ≠ 0

theorem full_cycle {n c s : Nat} (hn : 1 ≤ n) (hc : 1 ≤ c) (hs1 : 1 ≤ s) (hsn : s ≤ n) (hb : NoBack n c s) (hend : (s * c) % n = 0 ∨ s = n) : s = n ↔ Nat.gcd c n = 1 := by
  constructor
  · intro e
    subst e
    have hgp : 0 < Nat.gcd c s := Nat.gcd_pos_of_pos_right c (by omega)
    rcases Nat.lt_or_ge 1 (Nat.gcd c s) with h | h
    · exfalso
      obtain ⟨x, hx⟩ := Nat.gcd_dvd_left c s
      obtain ⟨y, hy⟩ := Nat.gcd_dvd_right c s
      have hy1 : 1 ≤ y := by rcases Nat.eq_zero_or_pos y with h0 | h0; (rw [h0, Nat.mul_zero] at hy; omega); exact h0
      have hlt : y < s := by
        have : 1 * y < Nat.gcd c s * y := Nat.mul_lt_mul_of_pos_right h hy1
        rw [← hy] at this; omega
      refine hb y hy1 hlt ?_
      have e : y * c = s * x := by
        calc y * c = y * (Nat.gcd c s * x) := by rw [← hx]
          _ = (Nat.gcd c s * y) * x := by rw [Nat.mul_comm (Nat.gcd c s) y, Nat.mul_assoc]
          _ = s * x := by rw [← hy]
      rw [e]; exact Nat.mul_mod_right s x
    · omega
  · intro hg
    rcases hend with h | h
    · have hd : n ∣ s * c := Nat.dvd_of_mod_eq_zero h
      have hco : Nat.Coprime n c := by rw [Nat.Coprime, Nat.gcd_comm]; exact hg
      have hds : n ∣ s := Nat.Coprime.dvd_of_dvd_mul_right hco hd
      have := Nat.le_of_dvd hs1 hds
      omega
    · exact h

end Go.Proofs.Qxb6601147a
