/-
  Seat b6600404a: small functions on the road of the dense link table: zzDenseOK, zzIndexOf, slices.BinarySearch at int, zzCloneInts.
-/
import Derived.Test.Qxb6600404aTopA
namespace Go.Proofs.Qxb6600404a
open Go.RowKit
set_option linter.unusedVariables false
set_option linter.unusedSimpArgs false

/-- The first k numbers ascend strictly. -/
def SAscTo (xs : List Int) (k : Nat) : Prop := ∀ i, i + 1 < k → ∃ x y, xs[i]? = some x ∧ xs[i + 1]? = some y ∧ x < y
theorem sasc_lt {xs : List Int} {k : Nat} (h : SAscTo xs k) : ∀ (d i : Nat) (x y : Int), i + 1 + d < k → xs[i]? = some x → xs[i + 1 + d]? = some y → x < y
  | 0, i, x, y, hk, hx, hy => by
    obtain ⟨x', y', h1, h2, h3⟩ := h i (by omega)
    rw [hx] at h1; cases h1
    have : xs[i + 1]? = some y := hy
    rw [this] at h2; cases h2
    exact h3
  | d + 1, i, x, y, hk, hx, hy => by
    obtain ⟨x', y', h1, h2, h3⟩ := h (i + 1 + d) (by omega)
    have h4 := sasc_lt h d i x x' (by omega) hx h1
    have : xs[i + 1 + d + 1]? = some y := hy
    rw [this] at h2; cases h2
    omega
theorem sasc_mono {xs : List Int} {k i j : Nat} {x y : Int} (h : SAscTo xs k) (hij : i < j) (hj : j < k) (hx : xs[i]? = some x) (hy : xs[j]? = some y) : x < y := by
  obtain ⟨d, rfl⟩ : ∃ d, j = i + 1 + d := ⟨j - (i + 1), by omega⟩
  exact sasc_lt h d i x y hj hx hy

/-- It returns a bool; where that is true P holds. -/
def Grants (P : Prop) (w : World) (e : Ending) (w' : World) : Prop := ∃ r : Bool, e = .returned (.bool r) ∧ (r = true → P) ∧ ∃ q, w' = w.drewN q

set_option maxHeartbeats 400000 in
theorem denseOK19 (a0 a1 : Option Addr) (n0 c0 n1 c1 : Nat) (xs : List Int) (w : World) (h0 : Row .i64 w a0 n0 xs) (hn0 : n0 ≤ 1000000000) (hn1 : n1 ≤ 1000000000) :
    Calls Try.prog 19 #[.slice a0 n0 c0, .slice a1 n1 c1] w (Grants (n0 = n1 ∧ SAscTo xs n0) w) := by
  by_cases hlen : n0 = n1
  · subst hlen
    go_enter Try.func19, Try.ntmps19
    go_wp2
    go_loopw [5] (fun i wr => ∃ k q : Nat, 1 ≤ k ∧ (k ≤ n0 ∨ k = 1) ∧ i = .int .i64 k ∧ wr = w.drewN q ∧ Hid (SAscTo xs k)) (fun i _ => n0 - (intOf i).toNat)
    case atStart => exact ⟨1, 0, Nat.le_refl _, .inr rfl, rfl, rfl, fun i h => by omega⟩
    case round =>
      obtain ⟨k, q, hk0, hk1, rfl, rfl, HE⟩ := hrel
      by_cases hlt : k < n0
      · obtain ⟨m, rfl⟩ : ∃ m, k = m + 1 := ⟨k - 1, by omega⟩
        obtain ⟨b, off, x, rfl, e0, HX⟩ := h0.at m (by omega)
        obtain ⟨b', off', y, eb, e1, HY⟩ := h0.at (m + 1) hlt
        simp only [Option.some.injEq, Addr.mk.injEq, and_true] at eb
        obtain ⟨rfl, rfl⟩ := eb
        by_cases hc : y ≤ x
        · go_wp2
          go_quiet (fail)
          go_wp2
          go_ret
          exact ⟨false, rfl, fun h => (by cases h), _, by simp only [World.drewN_drewN]; rfl⟩
        · go_wp2
          go_quiet (fail)
          go_wp2
          go_roundw
          case rel => exact ⟨m + 2, _, by omega, by omega, by go_num, rfl, fun i h => by
            by_cases e : i = m
            · subst e; exact ⟨x, y, HX.out, HY.out, by omega⟩
            · exact HE.out i (by omega)⟩
          case measure => simp [intOf]; omega
      · go_wp2
        go_ret
        exact ⟨true, rfl, fun _ => ⟨by trivial, fun i h => HE.out i (by omega)⟩, q, rfl⟩
  · go_enter Try.func19, Try.ntmps19
    go_wp2
    go_ret
    exact ⟨false, rfl, fun h => (by cases h), 0, rfl⟩

/-- What zzIndexOf comes to. -/
def IdxPost (xs : List Int) (j : Int) (w : World) (e : Ending) (w' : World) : Prop := w' = w ∧ ((∃ i : Nat, e = .returned (.int .i64 i) ∧ xs[i]? = some j) ∨ (e = .returned (.int .i64 (-1)) ∧ ∀ i : Nat, xs[i]? ≠ some j))

set_option maxHeartbeats 400000 in
theorem indexOf29 (a0 : Option Addr) (n0 c0 : Nat) (xs : List Int) (j : Int) (w : World) (h0 : Row .i64 w a0 n0 xs) (hn0 : n0 ≤ 1000000000) :
    Calls Try.prog 29 #[.slice a0 n0 c0, .int .i64 j] w (IdxPost xs j w) := by
  go_enter Try.func29, Try.ntmps29
  go_wp2
  go_loop [5] (fun i => ∃ k : Nat, k ≤ n0 ∧ i = .int .i64 k ∧ Hid (∀ i : Nat, i < k → xs[i]? ≠ some j)) (fun i => n0 - (intOf i).toNat)
  case atStart => exact ⟨0, Nat.zero_le _, rfl, fun i h => by omega⟩
  case round =>
    obtain ⟨k, hk, rfl, HE⟩ := hrel
    by_cases hlt : k < n0
    · obtain ⟨b, off, x, rfl, e0, HX⟩ := h0.at k hlt
      by_cases hc : x = j
      · subst hc
        go_wp2
        go_ret
        exact ⟨rfl, .inl ⟨k, rfl, HX.out⟩⟩
      · have hc' : (x == j) = false := by simpa using hc
        have HC := hid hc
        clear hc
        go_wp2
        go_round
        case rel => exact ⟨k + 1, by omega, by go_num, fun i h e => by
          by_cases ei : i = k
          · subst ei; rw [HX.out] at e; cases e; exact HC.out rfl
          · exact HE.out i (by omega) e⟩
        case measure => simp [intOf]; omega
    · go_wp2
      go_ret
      refine ⟨rfl, .inr ⟨rfl, fun i e => ?_⟩⟩
      have hl := (List.getElem?_eq_some_iff.1 e).1
      rw [h0.len] at hl
      exact HE.out i (by omega) e

/-- What slices.BinarySearch comes to. -/
def BsPost (xs : List Int) (j : Int) (w : World) (e : Ending) (w' : World) : Prop := ∃ (k : Nat) (ok : Bool), e = .returned (.tuple #[.int .i64 k, .bool ok]) ∧ k ≤ xs.length ∧ (∀ (t : Nat) (x : Int), xs[t]? = some x → (t < k ↔ x < j)) ∧ (ok = true ↔ xs[k]? = some j) ∧ w' = w

set_option maxHeartbeats 1000000 in
set_option maxRecDepth 100000 in
theorem bsearch61 (a0 : Option Addr) (n0 c0 : Nat) (xs : List Int) (j : Int) (w : World) (h0 : Row .i64 w a0 n0 xs) (hn0 : n0 ≤ 1000000000) (hs : SAscTo xs n0) :
    Calls Try.prog 61 #[.slice a0 n0 c0, .int .i64 j] w (BsPost xs j w) := by
  go_enter Try.func61, Try.ntmps61
  go_wp2
  go_loop [7, 8] (fun i' j' => ∃ i k : Nat, i ≤ k ∧ k ≤ n0 ∧ i' = .int .i64 i ∧ j' = .int .i64 k ∧ Hid (∀ (t : Nat) (x : Int), xs[t]? = some x → (t < i → x < j) ∧ (k ≤ t → j ≤ x)))
    (fun i' j' => (intOf j' - intOf i').toNat)
  case atStart => exact ⟨0, n0, Nat.zero_le _, Nat.le_refl _, rfl, rfl, fun t x h => ⟨fun h' => by omega, fun h' => by have := (List.getElem?_eq_some_iff.1 h).1; rw [h0.len] at this; omega⟩⟩
  case round =>
    obtain ⟨i, k, hik, hkn, rfl, rfl, HR⟩ := hrel
    by_cases hlt : i < k
    · obtain ⟨b, off, x, rfl, e0, HX⟩ := h0.at ((i + k) / 2) (by omega)
      by_cases hy : x < j
      · go_wp2
        all_goals go_round
        case rel => exact ⟨(i + k) / 2 + 1, k, by omega, by omega, by go_num, rfl, fun t x' h => ⟨fun h' => by
            by_cases e : t = (i + k) / 2
            · subst e; rw [HX.out] at h; cases h; exact hy
            · have := sasc_mono hs (show t < (i + k) / 2 by omega) (by omega) h HX.out; omega, (HR.out t x' h).2⟩⟩
        case measure => simp [intOf]; omega
      · go_wp2
        all_goals go_round
        case rel => exact ⟨i, (i + k) / 2, by omega, by omega, rfl, by go_num, fun t x' h => ⟨(HR.out t x' h).1, fun h' => by
            have htl := (List.getElem?_eq_some_iff.1 h).1
            rw [h0.len] at htl
            by_cases e : t = (i + k) / 2
            · subst e; rw [HX.out] at h; cases h; omega
            · have := sasc_mono hs (show (i + k) / 2 < t by omega) htl HX.out h; omega⟩⟩
        case measure => simp [intOf]; omega
    · obtain rfl : i = k := by omega
      have fin : ∀ (t : Nat) (x : Int), xs[t]? = some x → (t < i ↔ x < j) := fun t x h => ⟨(HR.out t x h).1, fun h' => by
        rcases Nat.lt_or_ge t i with h2 | h2
        · exact h2
        · have := (HR.out t x h).2 h2; omega⟩
      have HF := hid fin
      clear fin
      by_cases hn : i < n0
      · obtain ⟨b, off, x, rfl, e0, HX⟩ := h0.at i hn
        by_cases hc : x = j
        · subst hc
          go_wp2
          all_goals go_ret2
          exact ⟨i, true, rfl, by rw [h0.len]; omega, HF.out, by rw [HX.out]; simp, rfl⟩
        · have hc' : (x == j) = false := by simpa using hc
          have HC := hid hc
          clear hc
          go_wp2
          all_goals go_ret2
          exact ⟨i, false, rfl, by rw [h0.len]; omega, HF.out, by rw [HX.out]; simp; exact HC.out, rfl⟩
      · go_wp2
        all_goals go_ret2
        exact ⟨i, false, rfl, by rw [h0.len]; omega, HF.out, by rw [List.getElem?_eq_none (by rw [h0.len]; omega)]; simp, rfl⟩

/-- zzCloneInts: a copy in memory of the call's own (nil: nil). -/
def ClonePost (xs : List Int) (w : World) (e : Ending) (w' : World) : Prop := ∃ v, e = .returned v ∧ w'.ownsRow w.heap.size 3 1 v xs.length (ints .i64 xs) ∧ Below w.heap.size w w' ∧ (∀ a n c, v = .slice a n c → n = c)

set_option maxHeartbeats 1000000 in
set_option maxRecDepth 100000 in
theorem clone21 (a0 : Option Addr) (n0 c0 : Nat) (xs : List Int) (w : World) (h0 : Row .i64 w a0 n0 xs) (hn0 : n0 ≤ 100000000) (z0 : a0 = none → n0 = 0 ∧ c0 = 0) :
    Calls Try.prog 21 #[.slice a0 n0 c0] w (ClonePost xs w) := by
  have hne := fun (w : World) (a : Option Addr) (n c : Nat) => Lib.run_eql_slice_nil (P := Try.prog) w 22 3 a n c 0 0 Try.underlying22
  cases a0 with
  | none =>
    obtain ⟨rfl, rfl⟩ := z0 rfl
    clear z0
    go_enter Try.func21, Try.ntmps21
    go_wp2
    go_ret
    obtain rfl : xs = [] := List.eq_nil_of_length_eq_zero h0.len
    exact ⟨_, rfl, World.ownsRow_nil _ _ _ _, Below.refl _ _, fun a n c e => by cases e; rfl⟩
  | some ad =>
    obtain ⟨i0, hi0, hz0, hz1, hz2⟩ := info_parts info3
    have HLN := hid h0.len
    clear z0
    go_enter Try.func21, Try.ntmps21
    go_wp2_with (at_make; refine wpList_make_full _ rfl _ _ 22 rfl w.heap.size 3 i0 (.int .i64 0) 1 Try.underlying22 hi0 hz0 hz1 _ _ _ _ n0 rfl rfl rfl rfl (by rw [hz2]; omega) (by unfold maxLen; omega) (Nat.le_refl _) ?_)
    intro w1 hown1 hgrow1
    have hb1 : Below w.heap.size w w1 := (Below.refl _ _).grown hgrow1 (Nat.le_refl _) (by simp)
    have k1 := made_ints hown1
    clear hown1 hgrow1 hi0 hz0 hz1 hz2 hne
    go_wp2
    go_loopw [4] (fun i wr => ∃ k, k ≤ n0 ∧ i = .int .i64 k ∧ Blk wr w.heap.size (ints .i64 (xs.take k) ++ List.replicate (n0 - k) (.int .i64 0)) 3 ∧ Below w.heap.size w wr) (fun i _ => n0 - (intOf i).toNat)
    case atStart => exact ⟨0, Nat.zero_le _, rfl, by simpa [ints] using k1, hb1⟩
    case round =>
      clear k1 hb1
      obtain ⟨k, hk, rfl, k1, hb⟩ := hrel
      by_cases hlt : k < n0
      · obtain ⟨b, off, x, eb, e0, HX⟩ := (h0.keep hb).at k hlt
        cases eb
        obtain ⟨m, hm⟩ : ∃ m, n0 - k = m + 1 := ⟨n0 - k - 1, by omega⟩
        have HM : Hid (n0 - (k + 1) = m) := by show _ = _; omega
        rw [hm] at k1
        clear hm
        have HL1 : Hid ((xs.take k).length = k) := by show _ = _; have := HLN.out; simp; omega
        have z1 := k1.cell (zero_at HL1.out)
        have f1 := k1.free k
        have H1 : Hid (Blk (wr.setCell ⟨w.heap.size, k, none⟩ (.int .i64 x)) w.heap.size (ints .i64 (xs.take (k + 1)) ++ List.replicate (n0 - (k + 1)) (.int .i64 0)) 3) := by
          have := k1.set k (.int .i64 x)
          rw [set_one HL1.out] at this
          rw [HM.out, take_snoc HX.out]
          exact this
        clear k1
        go_wp2
        go_roundw
        case rel => exact ⟨k + 1, by omega, by go_num, H1.out, hb.setCell (Nat.le_refl _) _⟩
        case measure => simp [intOf]; omega
      · go_wp2
        go_ret
        obtain rfl : k = n0 := by omega
        rw [List.take_of_length_le (by rw [HLN.out]; omega), Nat.sub_self, List.replicate_zero] at k1
        have hl := HLN.out
        subst hl
        exact ⟨_, rfl, ownsRow_mk (rest := []) (Nat.le_refl _) (Nat.le_refl _) (by unfold maxLen; omega) (by rw [ints_length]; omega) (by rw [ints_length]; simp) k1, hb, fun a n c e => by cases e; rfl⟩

end Go.Proofs.Qxb6600404a
