/-
  Seat b6601147a: plain laws: the number of the coprimes by n's prime factors; the list of the coprimes ascends and is its own mirror.
-/
import Derived.Test.Qxb6601147aPrime
namespace Go.Proofs.Qxb6601147a
open Go.RowKit
set_option linter.unusedVariables false
set_option linter.unusedSimpArgs false

/-- How many numbers from 1 to k are coprime to r. -/
def cnt (r k : Nat) : Nat := (cops r k).length
theorem cnt_zero (r : Nat) : cnt r 0 = 0 := rfl
theorem cnt_succ (r k : Nat) : cnt r (k + 1) = cnt r k + if Nat.gcd (k + 1) r = 1 then 1 else 0 := by
  unfold cnt
  split
  · rename_i h; rw [cops_hit h]
  · rename_i h; rw [cops_miss h]; rfl
theorem cops_congr {r r' : Nat} (h : ∀ c, Nat.gcd c r = 1 ↔ Nat.gcd c r' = 1) : ∀ k, cops r k = cops r' k
  | 0 => rfl
  | k + 1 => by
    rw [cops, cops, cops_congr h k]
    by_cases e : Nat.gcd (k + 1) r = 1
    · rw [if_pos e, if_pos ((h _).1 e)]
    · rw [if_neg e, if_neg (fun x => e ((h _).2 x))]
theorem cnt_one : ∀ k, cnt 1 k = k
  | 0 => rfl
  | k + 1 => by rw [cnt_succ, cnt_one k, if_pos (Nat.gcd_one_right _)]

theorem cnt_shift (r : Nat) : ∀ k, cnt r (r + k) = cnt r r + cnt r k
  | 0 => by rw [cnt_zero]; rfl
  | k + 1 => by
    have e : Nat.gcd (r + k + 1) r = Nat.gcd (k + 1) r := by rw [Nat.add_assoc, Nat.gcd_self_add_left]
    rw [← Nat.add_assoc, cnt_succ, cnt_shift r k, cnt_succ]
    by_cases h : Nat.gcd (k + 1) r = 1
    · rw [if_pos h, if_pos (e.trans h), Nat.add_assoc]
    · rw [if_neg h, if_neg (fun x => h (e.symm.trans x)), Nat.add_assoc]
theorem cnt_times (r : Nat) : ∀ t, cnt r (t * r) = t * cnt r r
  | 0 => by rw [Nat.zero_mul, Nat.zero_mul, cnt_zero]
  | t + 1 => by rw [Nat.succ_mul, Nat.add_comm, cnt_shift, cnt_times r t, Nat.succ_mul, Nat.add_comm]

theorem cnt_split {p r : Nat} (hp : Pr p) (hc : Nat.gcd p r = 1) : ∀ N, cnt r N = cnt (r * p) N + cnt r (N / p)
  | 0 => by rw [Nat.zero_div, cnt_zero, cnt_zero]
  | N + 1 => by
    have ih := cnt_split hp hc N
    have e1 : Nat.gcd (N + 1) (r * p) = 1 ↔ Nat.gcd (N + 1) r = 1 ∧ ¬ p ∣ N + 1 := by rw [cop_mul, cop_pr hp]
    rw [cnt_succ, cnt_succ (r * p)]
    by_cases hd : p ∣ N + 1
    · rw [Nat.succ_div_of_dvd hd, cnt_succ]
      rw [if_neg (fun h => (e1.1 h).2 hd)]
      have e2 : Nat.gcd (N / p + 1) r = 1 ↔ Nat.gcd (N + 1) r = 1 := by
        have e3 : N + 1 = p * (N / p + 1) := by
          rw [← Nat.succ_div_of_dvd hd]; exact (Nat.mul_div_cancel' hd).symm
        constructor
        · intro h
          rw [e3]; exact Nat.Coprime.mul_left hc h
        · intro h
          rw [e3] at h
          exact Nat.Coprime.coprime_dvd_left (Nat.dvd_mul_left _ _) h
      by_cases h : Nat.gcd (N + 1) r = 1
      · rw [if_pos h, if_pos (e2.2 h)]; omega
      · rw [if_neg h, if_neg (fun x => h (e2.1 x))]; omega
    · have e4 : (N + 1) / p = N / p := by rw [Nat.succ_div, if_neg hd]; rfl
      rw [e4]
      by_cases h : Nat.gcd (N + 1) r = 1
      · rw [if_pos h, if_pos (e1.2 ⟨h, hd⟩)]; omega
      · rw [if_neg h, if_neg (fun x => h (e1.1 x).1)]; omega

/-- One step of the product over n's prime factors. -/
theorem phi_step {n m r p : Nat} (hw : n = m * r) (hp : Pr p) (hd : p ∣ m) (hc : Nat.gcd p r = 1) : cnt r n / p * (p - 1) = cnt (r * p) n := by
  obtain ⟨x, rfl⟩ := hd
  have hp0 : 0 < p := by have := hp.1; omega
  have e1 : cnt r n = p * (x * cnt r r) := by rw [hw, cnt_times, Nat.mul_assoc]
  have e2 : cnt r (n / p) = x * cnt r r := by rw [hw, Nat.mul_assoc, Nat.mul_div_cancel_left _ hp0, cnt_times]
  have e3 := cnt_split hp hc n
  rw [e2] at e3
  rw [e1] at e3 ⊢
  rw [Nat.mul_div_cancel_left _ hp0]
  obtain ⟨q, rfl⟩ : ∃ q, p = q + 1 := ⟨p - 1, by omega⟩
  rw [Nat.add_sub_cancel, Nat.mul_comm _ q]
  rw [Nat.succ_mul] at e3
  omega

theorem cop_div {m r m1 : Nat} (h : Nat.gcd m r = 1) (hd : m1 ∣ m) : Nat.gcd m1 r = 1 := Nat.Coprime.coprime_dvd_left hd h

/-! ### The list ascends, and is its own mirror -/
theorem cops_mem {n : Nat} : ∀ k (x : Int), x ∈ cops n k → 1 ≤ x ∧ x ≤ k
  | 0, x, h => by simp [cops] at h
  | k + 1, x, h => by
    rw [cops] at h
    rcases List.mem_append.1 h with h | h
    · have := cops_mem k x h; omega
    · split at h
      · simp at h; subst h; omega
      · simp at h
theorem cops_asc {n : Nat} : ∀ k, (cops n k).Pairwise (· < ·)
  | 0 => by simp [cops]
  | k + 1 => by
    rw [cops]
    refine List.pairwise_append.2 ⟨cops_asc k, ?_, fun a ha b hb => ?_⟩
    · split <;> simp
    · split at hb
      · simp at hb; subst hb
        have := (cops_mem k a ha).2; omega
      · simp at hb
theorem cops_next {n k i : Nat} {x y : Int} (hx : (cops n k)[i]? = some x) (hy : (cops n k)[i + 1]? = some y) : x < y := by
  obtain ⟨h1, rfl⟩ := List.getElem?_eq_some_iff.1 hx
  obtain ⟨h2, rfl⟩ := List.getElem?_eq_some_iff.1 hy
  exact List.pairwise_iff_getElem.1 (cops_asc k) i (i + 1) h1 h2 (by omega)

theorem cops_filter {n : Nat} (hn : 2 ≤ n) : ∀ k, cops n k = ((List.range (k + 1)).filter (fun c => decide (Nat.gcd c n = 1))).map (fun c : Nat => (c : Int))
  | 0 => by
    have : Nat.gcd 0 n ≠ 1 := by rw [Nat.gcd_zero_left]; omega
    simp [cops, List.range_succ]
    omega
  | k + 1 => by
    rw [cops, cops_filter hn k, List.range_succ (n := k + 1), List.filter_append, List.map_append]
    congr 1
    by_cases h : Nat.gcd (k + 1) n = 1 <;> simp [h]

theorem range_mirror (n : Nat) : (List.range (n + 1)).reverse = (List.range (n + 1)).map (fun x => n - x) := by
  rw [List.range_eq_range', List.reverse_range', ← List.range_eq_range']
  apply List.map_congr_left
  intro x _
  omega

theorem cops_mirror {n : Nat} (hn : 2 ≤ n) : (cops n n).reverse = (cops n n).map (fun y => (n : Int) - y) := by
  rw [cops_filter hn n, ← List.map_reverse, ← List.filter_reverse, range_mirror, List.filter_map, List.map_map, List.map_map]
  have e : List.filter ((fun c => decide (Nat.gcd c n = 1)) ∘ fun x => n - x) (List.range (n + 1)) = List.filter (fun c => decide (Nat.gcd c n = 1)) (List.range (n + 1)) := by
    apply List.filter_congr
    intro x hx
    have hx' : x ≤ n := by simp at hx; omega
    simp only [Function.comp, Nat.gcd_self_sub_left hx']
  rw [e]
  apply List.map_congr_left
  intro x hx
  have hx' : x ≤ n := by simp at hx; omega
  simp only [Function.comp]
  omega

theorem cops_sum {n i q : Nat} {x z : Int} (hn : 2 ≤ n) (hl : (cops n n).length = i + 1 + q) (hx : (cops n n)[i]? = some x) (hz : (cops n n)[q]? = some z) : x + z = n := by
  have e := cops_mirror hn
  have e1 : (cops n n).reverse[i]? = some z := by
    rw [List.getElem?_reverse (by omega), show (cops n n).length - 1 - i = q by omega, hz]
  rw [e, List.getElem?_map, hx] at e1
  simp at e1
  omega

end Go.Proofs.Qxb6601147a
