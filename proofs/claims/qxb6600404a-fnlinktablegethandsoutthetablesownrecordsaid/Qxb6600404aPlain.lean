/-
  Seat b6600404a: plain laws on canonical runs (no walk): the model's merge is what addRange leaves.
-/
import Derived.Test.Qxb6600404aUnion
import Derived.Test.Qxb6600404aCanon
import Derived.Test.Qxb6600404aLeaf
namespace Go.Proofs.Qxb6600404a
open Go.RowKit
set_option linter.unusedVariables false
set_option linter.unusedSimpArgs false

/-- Runs that are not empty and ascend with a gap. -/
def Pw (rs : List (Int × Int)) : Prop := rs.Pairwise (fun r r' => r.2 < r'.1) ∧ ∀ r ∈ rs, r.1 < r.2

theorem canon_pw {lo hi : List Int} {n : Nat} (hl : lo.length = n) (hh : hi.length = n) (h : CanonTo lo hi n) : Pw (lo.zip hi) := by
  have hlen : (lo.zip hi).length = n := by rw [List.length_zip]; omega
  have at_ : ∀ i (hi' : i < (lo.zip hi).length), ∃ x y, lo[i]? = some x ∧ hi[i]? = some y ∧ (lo.zip hi)[i] = (x, y) ∧ x < y ∧ ∀ j, i = j + 1 → ∃ z, hi[j]? = some z ∧ z < x := by
    intro i hi'
    obtain ⟨x, y, hx, hy, _, _, hxy, hg⟩ := h i (by omega)
    refine ⟨x, y, hx, hy, ?_, hxy, hg⟩
    have : (lo.zip hi)[i]? = some (x, y) := by rw [List.getElem?_zip_eq_some]; exact ⟨hx, hy⟩
    rw [List.getElem?_eq_getElem hi'] at this
    exact Option.some.inj this
  constructor
  · rw [List.pairwise_iff_getElem]
    intro i j hi' hj' hij
    obtain ⟨d, rfl⟩ : ∃ d, j = i + 1 + d := ⟨j - (i + 1), by omega⟩
    clear hij
    induction d with
    | zero =>
      obtain ⟨x, y, hx, hy, e, _, _⟩ := at_ i hi'
      obtain ⟨x', y', hx', hy', e', _, hg⟩ := at_ (i + 1 + 0) hj'
      obtain ⟨z, hz, hlt⟩ := hg i rfl
      rw [hy] at hz; cases hz
      rw [e, e']; exact hlt
    | succ d ih =>
      have h1 := ih (by omega)
      obtain ⟨x, y, hx, hy, e, hxy, _⟩ := at_ (i + 1 + d) (by omega)
      obtain ⟨x', y', hx', hy', e', _, hg⟩ := at_ (i + 1 + (d + 1)) hj'
      obtain ⟨z, hz, hlt⟩ := hg (i + 1 + d) rfl
      rw [hy] at hz; cases hz
      rw [e] at h1
      rw [e']
      simp only at h1 ⊢
      omega
  · intro r hr
    obtain ⟨i, hi', rfl⟩ := List.mem_iff_getElem.1 hr
    obtain ⟨x, y, _, _, e, hxy, _⟩ := at_ i hi'
    rw [e]; exact hxy

theorem Pw.asc {rs : List (Int × Int)} (h : Pw rs) : Asc rs := by
  intro i i' r r' hle hr hr'
  obtain ⟨hi, rfl⟩ := List.getElem?_eq_some_iff.1 hr
  obtain ⟨hi', rfl⟩ := List.getElem?_eq_some_iff.1 hr'
  by_cases e : i = i'
  · subst e; exact Int.le_refl _
  · have h1 := (List.pairwise_iff_getElem.1 h.1) i i' hi hi' (by omega)
    have h2 := h.2 rs[i'] (List.getElem_mem hi')
    omega

theorem fold_push : ∀ (R acc : List (Int × Int)), Pw R → (∀ A p, acc = A ++ [p] → ∀ r ∈ R, p.2 < r.1) → R.foldl mstep acc = acc ++ R
  | [], acc, _, _ => by simp
  | q :: R, acc, hp, h => by
    have hq : mstep acc q = acc ++ [q] := by
      rcases nil_or_last acc with rfl | ⟨A, p, rfl⟩
      · rfl
      · exact mstep_push (by have := h A p rfl q (by simp); omega)
    rw [List.foldl_cons, hq, fold_push R (acc ++ [q]) ⟨(List.pairwise_cons.1 hp.1).2, fun r hr => hp.2 r (by simp [hr])⟩ ?_]
    · simp
    · intro A p e r hr
      have : p = q := by have := List.append_inj_right' e rfl; simpa using this.symm
      subst this
      exact (List.pairwise_cons.1 hp.1).1 r hr

theorem mrg_pw {L : List (Int × Int)} (h : Pw L) : mrg L = L := by
  have := fold_push L [] h (by intro A p e; have := congrArg List.length e; simp at this)
  simpa [mrg] using this

theorem last_of {A B : List (Int × Int)} {p x : Int × Int} (h : A ++ [p] = B ++ [x]) : p = x := by
  have := List.append_inj_right' h rfl; simpa using this

theorem mrg_addTo {L R rs' : List (Int × Int)} {a b : Int} (hp : Pw (L ++ R)) (hab : a < b) (hL : ∀ p ∈ L, p.2 ≤ a) (hR : ∀ q R0, R = q :: R0 → a < q.2 ∧ b ≤ q.1) (h : AddTo L R a b rs') : mrg (L ++ (a, b) :: R) = rs' := by
  have hpL : Pw L := ⟨(List.pairwise_append.1 hp.1).1, fun r hr => hp.2 r (by simp [hr])⟩
  have hpR : Pw R := ⟨(List.pairwise_append.1 hp.1).2.1, fun r hr => hp.2 r (by simp [hr])⟩
  have e0 : mrg (L ++ (a, b) :: R) = R.foldl mstep (mstep L (a, b)) := by
    have := mrg_pw hpL
    unfold mrg at this ⊢
    rw [List.foldl_append, this, List.foldl_cons]
  have push : ∀ acc q R0, R = q :: R0 → b < q.1 → (∃ A x, acc = A ++ [x] ∧ x.2 = b) → R.foldl mstep acc = acc ++ R := by
    rintro acc q R0 rfl hq ⟨A, x, rfl, hx⟩
    refine fold_push _ _ hpR ?_
    intro A' p' e r hr
    have := last_of e
    subst this
    rcases List.mem_cons.1 hr with rfl | hr'
    · omega
    · have h1 := (List.pairwise_cons.1 hpR.1).1 r hr'
      have h2 := hpR.2 q (by simp)
      omega
  have join : ∀ A x q R0, R = q :: R0 → q.1 = b → x.2 = b → R.foldl mstep (A ++ [x]) = A ++ (x.1, q.2) :: R0 := by
    rintro A x q R0 rfl hq hx
    have hq2 := hpR.2 q (by simp)
    rw [List.foldl_cons, mstep_join (by omega), if_pos (by omega), fold_push R0 _ ⟨(List.pairwise_cons.1 hpR.1).2, fun r hr => hpR.2 r (by simp [hr])⟩ ?_]
    · simp
    · intro A' p' e r hr
      have := last_of e
      subst this
      exact (List.pairwise_cons.1 hpR.1).1 r hr
  have s1 : ∀ L0 p, L = L0 ++ [p] → p.2 = a → mstep L (a, b) = L0 ++ [(p.1, b)] := by
    rintro L0 p rfl hpa
    rw [mstep_join (by simp; omega), if_pos (by simp; omega)]
  have s2 : (∀ L0 p, L = L0 ++ [p] → p.2 ≠ a) → mstep L (a, b) = L ++ [(a, b)] := by
    intro hne
    rcases nil_or_last L with rfl | ⟨L0, p, rfl⟩
    · rfl
    · exact mstep_push (by have h1 := hL p (by simp); have h2 := hne L0 p rfl; simp; omega)
  rw [e0]
  rcases h with ⟨L0, p, q, R0, e1, hpa, e2, hqb, rfl⟩ | ⟨L0, p, e1, hpa, hne, rfl⟩ | ⟨q, R0, hne, e2, hqb, rfl⟩ | ⟨hne1, hne2, rfl⟩
  · rw [s1 L0 p e1 hpa, join L0 (p.1, b) q R0 e2 hqb rfl]
  · rw [s1 L0 p e1 hpa]
    rcases R with _ | ⟨q, R0⟩
    · rfl
    · rw [push _ q R0 rfl (by have h1 := (hR q R0 rfl).2; have h2 := hne q R0 rfl; omega) ⟨L0, _, rfl, rfl⟩]; simp
  · rw [s2 hne, join L (a, b) q R0 e2 hqb rfl]
  · rw [s2 hne1]
    rcases R with _ | ⟨q, R0⟩
    · rfl
    · rw [push _ q R0 rfl (by have h1 := (hR q R0 rfl).2; have h2 := hne2 q R0 rfl; omega) ⟨L, _, rfl, rfl⟩]; simp

/-- The place at which the model lays the new interval in is where addRange does. -/
theorem uni_place {lo hi : List Int} {n i : Nat} {a b : Int} {L R : List (Int × Int)} (hl : lo.length = n) (hh : hi.length = n) (hp : Pw (lo.zip hi)) (he : lo.zip hi = L ++ R) (hab : a < b) (hL : ∀ p ∈ L, p.2 ≤ a) (hR : ∀ q R0, R = q :: R0 → a < q.2 ∧ b ≤ q.1)
    (hi1 : i ≤ n) (h1 : ∀ t x, lo[t]? = some x → i ≤ t → a < x) (h2 : ∀ t x, lo[t]? = some x → i = t + 1 → x ≤ a) : (lo.zip hi).take i = L ∧ (lo.zip hi).drop i = R := by
  have hlen : (lo.zip hi).length = n := by rw [List.length_zip]; omega
  have hLn : L.length + R.length = n := by rw [← hlen, he, List.length_append]
  have lo_at : ∀ t (r : Int × Int), (lo.zip hi)[t]? = some r → lo[t]? = some r.1 := fun t r h => (List.getElem?_zip_eq_some.1 h).1
  have hiL : i = L.length := by
    rcases Nat.lt_trichotomy i L.length with h | h | h
    · have hr : (lo.zip hi)[i]? = some L[i] := by rw [he, List.getElem?_append_left h]; exact List.getElem?_eq_getElem h
      have h3 := h1 i _ (lo_at i _ hr) (Nat.le_refl _)
      have h4 := hL L[i] (List.getElem_mem h)
      have h5 := hp.2 L[i] (by rw [he]; simp)
      omega
    · exact h
    · obtain ⟨t, rfl⟩ : ∃ t, i = t + 1 := ⟨i - 1, by omega⟩
      have ht : t - L.length < R.length := by omega
      have hr : (lo.zip hi)[t]? = some R[t - L.length] := by rw [he, List.getElem?_append_right (by omega)]; exact List.getElem?_eq_getElem ht
      have h3 := h2 t _ (lo_at t _ hr) rfl
      rcases R with _ | ⟨q, R0⟩
      · simp at ht
      · have hq := hR q R0 rfl
        have : q.1 ≤ (q :: R0)[t - L.length].1 := by
          generalize t - L.length = k at ht ⊢
          rcases k with _ | k
          · simp
          · have hpR : (q :: R0).Pairwise (fun r r' => r.2 < r'.1) := by rw [he] at hp; exact (List.pairwise_append.1 hp.1).2.1
            have h6 := (List.pairwise_iff_getElem.1 hpR) 0 (k + 1) (by simp) ht (by omega)
            have h7 := hp.2 q (by rw [he]; simp)
            simp only [List.getElem_cons_zero] at h6
            omega
        omega
  subst hiL
  rw [he]
  simp

/-- Over or not, said of the list of runs. -/
theorem over_iff {lo hi : List Int} {n : Nat} {a b : Int} (hl : lo.length = n) (hh : hi.length = n) : OverTo lo hi a b n ↔ ∃ r ∈ lo.zip hi, r.1 < b ∧ a < r.2 ∧ a < b ∧ r.1 < r.2 := by
  constructor
  · rintro ⟨i, x, y, hi', hx, hy, h1, h2, h3, h4⟩
    exact ⟨(x, y), List.mem_of_getElem? (List.getElem?_zip_eq_some.2 ⟨hx, hy⟩), h1, h2, h3, h4⟩
  · rintro ⟨r, hr, h1, h2, h3, h4⟩
    obtain ⟨i, hi', e⟩ := List.mem_iff_getElem.1 hr
    have h := List.getElem?_eq_getElem hi'
    rw [e] at h
    have h' := List.getElem?_zip_eq_some.1 h
    exact ⟨i, r.1, r.2, by rw [List.length_zip] at hi'; omega, h'.1, h'.2, h1, h2, h3, h4⟩

end Go.Proofs.Qxb6600404a
