/-
  Seat b6601147a: coprimes(n): the numbers from 1 to n that have no factor in common with n.
-/
import Derived.Test.Qxb6601147aKit
namespace Go.Proofs.Qxb6601147a
open Go.RowKit
set_option linter.unusedVariables false
set_option linter.unusedSimpArgs false

/-- The numbers from 1 to k that are coprime to n. -/
def cops (n : Nat) : Nat → List Int
  | 0 => []
  | k + 1 => cops n k ++ (if Nat.gcd (k + 1) n = 1 then [((k + 1 : Nat) : Int)] else [])

theorem cops_le (n : Nat) : ∀ k, (cops n k).length ≤ k
  | 0 => Nat.le_refl _
  | k + 1 => by
    have := cops_le n k
    rw [cops]
    split <;> simp <;> omega

theorem below_drewN {B : Nat} {a w : World} (h : Below B a w) (q : Nat) : Below B a (w.drewN q) := ⟨h.os, h.tape, h.output, h.size, h.block⟩

theorem info3 : (Try.prog.info? 3).map (fun i => (i.zero, i.size, i.bytes)) = some (some (.int .i64 0), 1, 8) := by kernel_rfl

/-- What coprimes comes to. -/
def CopPost (n : Nat) (w : World) (e : Ending) (w' : World) : Prop := ∃ v, e = .returned v ∧ w'.ownsRow w.heap.size 3 1 v (cops n n).length (ints .i64 (cops n n)) ∧ Below w.heap.size w w' ∧ (n = 0 → v = .slice none 0 0)

set_option maxHeartbeats 1600000 in
set_option maxRecDepth 1000000 in
theorem coprimes7 (n : Nat) (hn : n ≤ 65536) (w : World) :
    Calls Try.prog 7 #[.int .i64 n] w (CopPost n w) := by
  obtain ⟨i0, hi0, hz0, hz1, hz2⟩ := info_parts info3
  go_enter Try.func7, Try.ntmps7
  go_wp2
  go_loopw [3, 4, 5, 6] (fun v c _ _ wr => ∃ k : Nat, k ≤ n ∧ c = .int .i64 (k + 1 : Nat) ∧ wr.ownsRow w.heap.size 3 1 v (cops n k).length (ints .i64 (cops n k)) ∧ Below w.heap.size w wr ∧ (n = 0 → v = .slice none 0 0))
    (fun _ c _ _ _ => n + 1 - (intOf c).toNat)
  case atStart => exact ⟨0, Nat.zero_le _, rfl, World.ownsRow_nil _ _ _ _, Below.refl _ _, fun _ => rfl⟩
  case round =>
    obtain ⟨k, hk, rfl, hown, hb, hnil⟩ := hrel
    by_cases hlt : k < n
    · go_wp2
      go_loopw [5, 6] (fun a b wx => ∃ x y : Nat, x ≤ 65536 ∧ y ≤ 65536 ∧ a = .int .i64 x ∧ b = .int .i64 y ∧ wx.ownsRow w.heap.size 3 1 u3 (cops n k).length (ints .i64 (cops n k)) ∧ Below w.heap.size w wx ∧ Hid (Nat.gcd x y = Nat.gcd (k + 1) n)) (fun _ b _ => (intOf b).toNat)
      case atStart => exact ⟨k + 1, n, by omega, hn, rfl, rfl, hown, hb, rfl⟩
      case round =>
        clear hown hb
        obtain ⟨x, y, hx, hy, rfl, rfl, hown, hb, HG⟩ := hrel
        rcases Nat.eq_zero_or_pos y with rfl | hpos
        · have hG : x = Nat.gcd (k + 1) n := by have := HG.out; rwa [Nat.gcd_zero_right] at this
          by_cases h1 : x = 1
          · have hbe : ((x : Int) == 1) = true := by simp; omega
            have hG' : Hid ((k + 1).gcd n = 1) := by show _ = _; omega
            clear hG h1
            go_wp2_with (at_builtin; refine wpList_append_own _ rfl _ _ 22 rfl w.heap.size 3 i0 (.int .i64 0) 1 8 Try.underlying22 hi0 hz0 hz1 hz2 rfl (by decide) _ _ _ rfl (hown.alloc _) ⟨wr.heap.size, 0, none⟩ 1 1 [.int .i64 (k + 1 : Nat)] rfl rfl ?c1 ?c2 ?c3 ?c4 ?c5 ?_)
            case c1 =>
              intro j u hj
              match j, hj with
              | 0, hj => simp at hj; subst hj; simp [Addr.add]
            case c2 => intro u hu; simp at hu; subst hu; rfl
            case c3 => have := cops_le n k; unfold maxLen; omega
            case c4 => have := cops_le n k; omega
            case c5 => have := hb.size; simp; omega
            intro v' w1 hown' hgrow _
            have hb1 : Below w.heap.size w w1 := (hb.alloc (by have := hb.size; simp; omega) _).grown hgrow (by have := hb.size; simp; omega) (fun g hg => (hown.lt g hg).1)
            have hown1 : w1.ownsRow w.heap.size 3 1 v' (cops n (k + 1)).length (ints .i64 (cops n (k + 1))) := by
              rw [cops, if_pos hG'.out]
              simpa [ints] using hown'
            clear hown' hgrow hown
            go_wp2
            go_roundw
            case rel => exact ⟨k + 1, by omega, by go_num, hown1, hb1, fun h => by omega⟩
            case measure => simp [intOf]; omega
          · have hne : Hid (¬ (k + 1).gcd n = 1) := by show ¬ _; rw [← hG]; exact h1
            have hbe : ((x : Int) == 1) = false := by simp; omega
            clear hG h1
            go_wp2
            go_roundw
            case rel => exact ⟨k + 1, by omega, by go_num, by rw [cops, if_neg hne.out, List.append_nil]; exact hown, hb, hnil⟩
            case measure => simp [intOf]; omega
        · go_wp2
          go_quiet (fail)
          go_wp2
          go_roundw
          case rel => exact ⟨y, x % y, hy, by have := Nat.mod_lt x hpos; omega, rfl, by go_num, ownsRow_drewN hown _, below_drewN hb _, by show _ = _; rw [← HG.out, Nat.gcd_comm x y, Nat.gcd_rec y x, Nat.gcd_comm]⟩
          case measure => simp [intOf]; rw [← Int.natCast_emod, Int.toNat_natCast]; exact Nat.mod_lt x hpos
    · obtain rfl : k = n := by omega
      go_wp2
      go_ret
      exact ⟨_, rfl, hown, hb, hnil⟩

end Go.Proofs.Qxb6601147a
