/-
  Seat b6600404a: (*runSet).find: the closure, slices.BinarySearchFunc at run, find.
-/
import Derived.Test.Qxb6600404aKit
namespace Go.Proofs.Qxb6600404a
open Go.RowKit
set_option linter.unusedVariables false

/-- The cells of a list of runs. -/
def flat : List (Int × Int) → List Value
  | [] => []
  | r :: rs => .int .i64 r.1 :: .int .i64 r.2 :: flat rs

theorem flat_length : ∀ rs : List (Int × Int), (flat rs).length = rs.length * 2
  | [] => rfl
  | r :: rs => by simp [flat, flat_length rs]; omega

theorem flat_lo : ∀ (rs : List (Int × Int)) (i : Nat) (r : Int × Int), rs[i]? = some r → (flat rs)[i * 2]? = some (.int .i64 r.1)
  | [], i, r, h => by simp at h
  | s :: rs, 0, r, h => by simp at h; subst h; simp [flat]
  | s :: rs, i + 1, r, h => by
    have := flat_lo rs i r (by simpa using h)
    rw [show (i + 1) * 2 = i * 2 + 2 by omega]
    simpa [flat] using this

theorem flat_hi : ∀ (rs : List (Int × Int)) (i : Nat) (r : Int × Int), rs[i]? = some r → (flat rs)[i * 2 + 1]? = some (.int .i64 r.2)
  | [], i, r, h => by simp at h
  | s :: rs, 0, r, h => by simp at h; subst h; simp [flat]
  | s :: rs, i + 1, r, h => by
    have := flat_hi rs i r (by simpa using h)
    rw [show (i + 1) * 2 + 1 = i * 2 + 1 + 2 by omega]
    simpa [flat] using this

theorem flat_append : ∀ (a b : List (Int × Int)), flat (a ++ b) = flat a ++ flat b
  | [], b => rfl
  | r :: a, b => by simp [flat, flat_append a b]

/-- What the closure answers. -/
def cmpR (x y j : Int) : Int := if y ≤ j then -1 else if j < x then 1 else 0

set_option maxHeartbeats 400000 in
theorem closure66 (x y j : Int) (w : World) :
    Calls Try.prog 66 #[.agg #[.int .i64 x, .int .i64 y], .int .i64 j] w fun e w' => e = .returned (.int .i64 (cmpR x y j)) ∧ w' = w.alloc (.cells #[.int .i64 x, .int .i64 y] 68) := by
  go_enter Try.func66, Try.ntmps66
  go_wp2
  all_goals go_ret
  all_goals refine ⟨ret_int ?_, rfl⟩
  all_goals (unfold cmpR; split <;> (try split) <;> omega)

/-- The two cells of run i. -/
theorem run_cells {w : World} {g : Nat} {rs : List (Int × Int)} {rest : List Value} (h : Blk w g (flat rs ++ rest) 68) {i : Nat} {r : Int × Int} (hr : rs[i]? = some r) :
    w.cell? ⟨g, i * 2, none⟩ = some (.int .i64 r.1) ∧ w.cell? ⟨g, i * 2 + 1, none⟩ = some (.int .i64 r.2) := by
  have hi : i < rs.length := (List.getElem?_eq_some_iff.1 hr).1
  have hf := flat_length rs
  exact ⟨h.cell (by rw [List.getElem?_append_left (by omega)]; exact flat_lo rs i r hr), h.cell (by rw [List.getElem?_append_left (by omega)]; exact flat_hi rs i r hr)⟩

/-- The ends ascend. -/
def Asc (rs : List (Int × Int)) : Prop := ∀ (i i' : Nat) (r r' : Int × Int), i ≤ i' → rs[i]? = some r → rs[i']? = some r' → r.2 ≤ r'.2

theorem cmpR_neg (x y j : Int) : cmpR x y j < 0 ↔ y ≤ j := by unfold cmpR; split <;> (try split) <;> omega
theorem cmpR_zero (x y j : Int) : cmpR x y j = 0 ↔ j < y ∧ x ≤ j := by unfold cmpR; split <;> (try split) <;> omega

theorem bs_left {rs : List (Int × Int)} {j : Int} {i k h : Nat} {x y : Int} (hasc : Asc rs) (HR : ∀ (t : Nat) (r : Int × Int), rs[t]? = some r → (t < i → r.2 ≤ j) ∧ (k ≤ t → j < r.2)) (hr : rs[h]? = some (x, y)) (hy : y ≤ j) (hik : i ≤ h) :
    Hid (∀ (t : Nat) (r : Int × Int), rs[t]? = some r → (t < h + 1 → r.2 ≤ j) ∧ (k ≤ t → j < r.2)) := by
  intro t r ht
  refine ⟨fun hlt => ?_, (HR t r ht).2⟩
  have := hasc t h r (x, y) (by omega) ht hr
  simp at this
  omega
theorem bs_right {rs : List (Int × Int)} {j : Int} {i k h : Nat} {x y : Int} (hasc : Asc rs) (HR : ∀ (t : Nat) (r : Int × Int), rs[t]? = some r → (t < i → r.2 ≤ j) ∧ (k ≤ t → j < r.2)) (hr : rs[h]? = some (x, y)) (hy : j < y) :
    Hid (∀ (t : Nat) (r : Int × Int), rs[t]? = some r → (t < i → r.2 ≤ j) ∧ (h ≤ t → j < r.2)) := by
  intro t r ht
  refine ⟨(HR t r ht).1, fun hle => ?_⟩
  have := hasc h t (x, y) r hle hr ht
  simp at this
  omega

/-- k runs end at or before j; the others end behind it. -/
def FindAt (rs : List (Int × Int)) (j : Int) (k : Nat) : Prop := k ≤ rs.length ∧ ∀ i r, rs[i]? = some r → (i < k ↔ r.2 ≤ j)

set_option maxHeartbeats 1000000 in
theorem bsearchFunc (B : Nat) (v : Value) (rs : List (Int × Int)) (j : Int) (w : World) (hrs : rs.length ≤ 1000000000) (hasc : Asc rs) (hown : w.ownsRow B 68 2 v rs.length (flat rs)) :
    Calls Try.prog 65 #[v, .int .i64 j, .func (.func 66) #[] #[]] w fun e w' => ∃ (k : Nat) (ok : Bool), e = .returned (.tuple #[.int .i64 k, .bool ok]) ∧ FindAt rs j k ∧ (ok = true ↔ ∃ r, rs[k]? = some r ∧ r.1 ≤ j) ∧ Below w.heap.size w w' := by
  rcases ownsRow_form hown with ⟨rfl, hn, _⟩ | ⟨g, cap, rest, rfl, hg, hnc, hcm, hl, hl2, hblk⟩
  · obtain rfl : rs = [] := List.eq_nil_of_length_eq_zero hn
    go_enter Try.func65, Try.ntmps65
    go_wp2
    refine wp_loop_rounds 1 ?_
    rw [rounds_succ]
    go_wp2
    go_ret2
    exact ⟨0, false, rfl, ⟨Nat.le_refl _, fun t r ht => by simp at ht⟩, by simp, Below.refl _ _⟩
  · go_enter Try.func65, Try.ntmps65
    go_wp2
    go_loopw [9, 10] (fun i' j' wr => ∃ i k : Nat, i ≤ k ∧ k ≤ rs.length ∧ i' = .int .i64 i ∧ j' = .int .i64 k ∧ Hid (∀ t r, rs[t]? = some r → (t < i → r.2 ≤ j) ∧ (k ≤ t → j < r.2)) ∧ Below w.heap.size w wr)
      (fun i' j' _ => (intOf j' - intOf i').toNat)
    case atStart => exact ⟨0, rs.length, Nat.zero_le _, Nat.le_refl _, rfl, rfl, fun t r h => ⟨fun h' => absurd h' (Nat.not_lt_zero t), fun h' => by rw [List.getElem?_eq_none h'] at h; cases h⟩, Below.refl _ _⟩
    case round =>
      obtain ⟨i, k, hik, hkn, rfl, rfl, HR, hb⟩ := hrel
      by_cases hlt : i < k
      · obtain ⟨x, y, hr⟩ : ∃ x y, rs[(i + k) / 2]? = some (x, y) := ⟨_, _, List.getElem?_eq_getElem (by omega)⟩
        obtain ⟨e0, e1⟩ := run_cells (hblk.below hb hblk.lt) hr
        have HX := hid hr
        clear hr
        by_cases hy : y ≤ j
        · have hneg : cmpR x y j < 0 := (cmpR_neg x y j).2 hy
          go_wp2_with (go_at_call 66; refine (closure66 x y j _).mono ?_; rintro e w' ⟨rfl, rfl⟩)
          go_roundw
          case rel => exact ⟨(i + k) / 2 + 1, k, by omega, by omega, by go_num, rfl, bs_left hasc HR.out HX.out hy (by omega), hb.alloc hb.size _⟩
          case measure => simp [intOf]; omega
        · have hneg : ¬ cmpR x y j < 0 := fun h => hy ((cmpR_neg x y j).1 h)
          go_wp2_with (go_at_call 66; refine (closure66 x y j _).mono ?_; rintro e w' ⟨rfl, rfl⟩)
          go_roundw
          case rel => exact ⟨i, (i + k) / 2, by omega, by omega, rfl, by go_num, bs_right hasc HR.out HX.out (by omega), hb.alloc hb.size _⟩
          case measure => simp [intOf]; omega
      · obtain rfl : i = k := by omega
        by_cases hn : i < rs.length
        · obtain ⟨x, y, hr⟩ : ∃ x y, rs[i]? = some (x, y) := ⟨_, _, List.getElem?_eq_getElem (by omega)⟩
          obtain ⟨e0, e1⟩ := run_cells (hblk.below hb hblk.lt) hr
          have HX := hid hr
          clear hr
          go_wp2_with (go_at_call 66; refine (closure66 x y j _).mono ?_; rintro e w' ⟨rfl, rfl⟩)
          go_ret2
          refine ⟨i, _, rfl, ⟨by omega, fun t r ht => ⟨(HR.out t r ht).1, fun h => ?_⟩⟩, ?_, hb.alloc hb.size _⟩
          · rcases Nat.lt_or_ge t i with h' | h'
            · exact h'
            · have := (HR.out t r ht).2 h'; omega
          · have h1 := (HR.out i (x, y) HX.out).2 (Nat.le_refl _)
            rw [HX.out]
            simp [cmpR_zero]
            omega
        · go_wp2
          go_ret2
          refine ⟨i, _, rfl, ⟨by omega, fun t r ht => ⟨(HR.out t r ht).1, fun h => ?_⟩⟩, ?_, hb⟩
          · rcases Nat.lt_or_ge t i with h' | h'
            · exact h'
            · have := (HR.out t r ht).2 h'; omega
          · rw [List.getElem?_eq_none (by omega)]
            simp
set_option maxHeartbeats 400000 in
theorem find57 (B s o : Nat) (v : Value) (rs : List (Int × Int)) (j : Int) (w : World) (hrs : rs.length ≤ 1000000000) (hasc : Asc rs) (hown : w.ownsRow B 68 2 v rs.length (flat rs)) (hc : w.cell? ⟨s, o, none⟩ = some v) :
    Calls Try.prog 57 #[.pointer (some ⟨s, o, none⟩), .int .i64 j] w fun e w' => ∃ (k : Nat) (ok : Bool), e = .returned (.tuple #[.int .i64 k, .bool ok]) ∧ FindAt rs j k ∧ (ok = true ↔ ∃ r, rs[k]? = some r ∧ r.1 ≤ j) ∧ Below w.heap.size w w' := by
  go_enter Try.func57, Try.ntmps57
  go_wp2_with (go_at_call 65; refine (bsearchFunc B v rs j _ hrs hasc hown).mono ?_; rintro e w' ⟨k, ok, rfl, hf, hok, hb⟩)
  go_ret2
  exact ⟨k, ok, rfl, hf, hok, hb⟩

end Go.Proofs.Qxb6600404a
