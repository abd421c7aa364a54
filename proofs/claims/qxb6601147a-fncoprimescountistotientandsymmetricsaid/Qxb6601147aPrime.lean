/-
  Seat b6601147a: plain laws: trial division finds primes; coprime to a product; marks in a row of bools.
-/
import Derived.Test.Qxb6601147aCop2
namespace Go.Proofs.Qxb6601147a
open Go.RowKit
set_option linter.unusedVariables false
set_option linter.unusedSimpArgs false

def Pr (p : Nat) : Prop := 2 ≤ p ∧ ∀ d, d ∣ p → d = 1 ∨ d = p
/-- No number from 2 up to p (p left out) divides m. -/
def NoDiv (p m : Nat) : Prop := ∀ d, 2 ≤ d → d < p → ¬ d ∣ m

theorem pr_of_least {p m : Nat} (hp : 2 ≤ p) (h : NoDiv p m) (hd : p ∣ m) : Pr p := by
  refine ⟨hp, fun d hdp => ?_⟩
  have hle := Nat.le_of_dvd (by omega) hdp
  rcases Nat.lt_or_ge d 2 with h2 | h2
  · rcases Nat.eq_zero_or_pos d with h0 | h0
    · subst h0; have := Nat.eq_zero_of_zero_dvd hdp; omega
    · left; omega
  · rcases Nat.lt_or_ge d p with h3 | h3
    · exact absurd (Nat.dvd_trans hdp hd) (h d h2 h3)
    · right; omega

theorem pr_rest {p m : Nat} (h : NoDiv p m) (hm : 1 < m) (hlt : m < p * p) : Pr m := by
  refine ⟨hm, fun d hd => ?_⟩
  obtain ⟨e, he⟩ := hd
  rcases Nat.lt_or_ge d 2 with h2 | h2
  · rcases Nat.eq_zero_or_pos d with h0 | h0
    · subst h0; rw [Nat.zero_mul] at he; omega
    · left; omega
  · rcases Nat.lt_or_ge e 2 with h3 | h3
    · rcases Nat.eq_zero_or_pos e with h0 | h0
      · subst h0; rw [Nat.mul_zero] at he; omega
      · right; obtain rfl : e = 1 := by omega
        omega
    · exfalso
      have hdp : p ≤ d := by
        rcases Nat.lt_or_ge d p with h4 | h4
        · exact absurd ⟨e, he⟩ (h d h2 h4)
        · exact h4
      have hep : p ≤ e := by
        rcases Nat.lt_or_ge e p with h4 | h4
        · exact absurd ⟨d, by rw [he, Nat.mul_comm]⟩ (h e h3 h4)
        · exact h4
      have := Nat.mul_le_mul hdp hep
      omega

theorem cop_pr {p : Nat} (hp : Pr p) (c : Nat) : Nat.gcd c p = 1 ↔ ¬ p ∣ c := by
  constructor
  · intro h hd
    have : Nat.gcd c p = p := Nat.gcd_eq_right hd
    have := hp.1
    omega
  · intro h
    rcases hp.2 _ (Nat.gcd_dvd_right c p) with h1 | h1
    · exact h1
    · exact absurd (h1 ▸ Nat.gcd_dvd_left c p) h

theorem cop_mul (c a b : Nat) : Nat.gcd c (a * b) = 1 ↔ Nat.gcd c a = 1 ∧ Nat.gcd c b = 1 := by
  constructor
  · intro h
    exact ⟨Nat.Coprime.coprime_mul_right_right h, Nat.Coprime.coprime_mul_left_right h⟩
  · rintro ⟨h1, h2⟩
    exact Nat.Coprime.mul_right h1 h2

theorem noDiv_mono {p m m' : Nat} (h : NoDiv p m) (hd : m' ∣ m) : NoDiv p m' := fun d h1 h2 h3 => h d h1 h2 (Nat.dvd_trans h3 hd)
theorem noDiv_succ {p m : Nat} (h : NoDiv p m) (hn : ¬ p ∣ m) : NoDiv (p + 1) m := fun d h1 h2 h3 => by
  by_cases e : d = p
  · subst e; exact hn h3
  · exact h d h1 (by omega) h3

/-- What the loop 'for m%p == 0 { m /= p }' keeps. -/
structure Div (n p m r m1 r1 : Nat) : Prop where
  whole : n = m1 * r1
  part : m1 ∣ m
  cop : (m1 = m ∧ r1 = r) ∨ ∀ c, Nat.gcd c r1 = 1 ↔ Nat.gcd c r = 1 ∧ Nat.gcd c p = 1

theorem Div.start {n p m r : Nat} (h : n = m * r) : Div n p m r m r := ⟨h, Nat.dvd_refl _, .inl ⟨rfl, rfl⟩⟩
theorem Div.step {n p m r m1 r1 : Nat} (h : Div n p m r m1 r1) (hp : 2 ≤ p) (hd : p ∣ m1) : Div n p m r (m1 / p) (r1 * p) := by
  obtain ⟨x, rfl⟩ := hd
  rw [Nat.mul_div_cancel_left x (by omega)]
  refine ⟨?_, Nat.dvd_trans (Nat.dvd_mul_left x p) h.part, .inr fun c => ?_⟩
  · rw [h.whole, Nat.mul_comm p x, Nat.mul_assoc, Nat.mul_comm p r1]
  · rw [cop_mul]
    rcases h.cop with ⟨_, rfl⟩ | h2
    · rfl
    · rw [h2 c]; constructor
      · rintro ⟨⟨a, b⟩, _⟩; exact ⟨a, b⟩
      · rintro ⟨a, b⟩; exact ⟨⟨a, b⟩, b⟩
theorem Div.done {n p m r m1 r1 : Nat} (h : Div n p m r m1 r1) (hd : p ∣ m) (hn : ¬ p ∣ m1) (c : Nat) : Nat.gcd c r1 = 1 ↔ Nat.gcd c r = 1 ∧ Nat.gcd c p = 1 := by
  rcases h.cop with ⟨rfl, _⟩ | h2
  · exact absurd hd hn
  · exact h2 c

/-- A row of n + 1 bools that marks the numbers c of 1..n with P c. -/
def Marks (w : World) (g n : Nat) (P : Nat → Prop) : Prop := ∃ bs : List Bool, bs.length = n + 1 ∧ Blk w g (bs.map Value.bool) 4 ∧ ∀ c, 1 ≤ c → c ≤ n → (bs[c]? = some true ↔ P c)

theorem Marks.cell {w : World} {g n : Nat} {P : Nat → Prop} (h : Marks w g n P) {c : Nat} (hc : c ≤ n) : ∃ b, w.cell? ⟨g, c, none⟩ = some (.bool b) ∧ Hid (1 ≤ c → (b = true ↔ P c)) := by
  obtain ⟨bs, hl, hb, hP⟩ := h
  have hlt : c < bs.length := by omega
  refine ⟨bs[c], hb.cell (by simp [hlt]), fun h1 => ?_⟩
  rw [← hP c h1 hc, List.getElem?_eq_getElem hlt]; simp
theorem Marks.free {w : World} {g n : Nat} {P : Nat → Prop} (h : Marks w g n P) (c : Nat) : w.frozen? ⟨g, c, none⟩ = false := by
  obtain ⟨bs, hl, hb, hP⟩ := h
  exact hb.free c
theorem Marks.set {w : World} {g n : Nat} {P : Nat → Prop} (h : Marks w g n P) {k : Nat} (hk : k ≤ n) : Marks (w.setCell ⟨g, k, none⟩ (.bool true)) g n (fun c => P c ∨ c = k) := by
  obtain ⟨bs, hl, hb, hP⟩ := h
  refine ⟨bs.set k true, by simp [hl], by rw [List.map_set]; exact hb.set k _, fun c h1 h2 => ?_⟩
  rw [List.getElem?_set]
  split
  · rename_i e; subst e; simp; omega
  · rename_i e
    rw [hP c h1 h2]
    constructor
    · exact .inl
    · rintro (h | h)
      · exact h
      · exact absurd h.symm e
theorem Marks.iff {w : World} {g n : Nat} {P Q : Nat → Prop} (h : Marks w g n P) (hPQ : ∀ c, 1 ≤ c → c ≤ n → (P c ↔ Q c)) : Marks w g n Q := by
  obtain ⟨bs, hl, hb, hP⟩ := h
  exact ⟨bs, hl, hb, fun c h1 h2 => (hP c h1 h2).trans (hPQ c h1 h2)⟩
theorem Marks.drewN {w : World} {g n : Nat} {P : Nat → Prop} (h : Marks w g n P) (q : Nat) : Marks (w.drewN q) g n P := h

/-- The multiples of p below the next one. -/
theorem mult_next {p i c : Nat} (hp : 0 < p) : (p ∣ c ∧ c < p * (i + 1)) ↔ (p ∣ c ∧ c < p * i) ∨ c = p * i := by
  constructor
  · rintro ⟨⟨x, rfl⟩, h⟩
    have hx : x < i + 1 := Nat.lt_of_mul_lt_mul_left h
    by_cases e : x = i
    · right; rw [e]
    · left; exact ⟨⟨x, rfl⟩, Nat.mul_lt_mul_of_pos_left (by omega) hp⟩
  · rintro (⟨h1, h2⟩ | rfl)
    · exact ⟨h1, Nat.lt_of_lt_of_le h2 (Nat.mul_le_mul_left p (by omega))⟩
    · exact ⟨⟨i, rfl⟩, Nat.mul_lt_mul_of_pos_left (by omega) hp⟩

end Go.Proofs.Qxb6601147a
