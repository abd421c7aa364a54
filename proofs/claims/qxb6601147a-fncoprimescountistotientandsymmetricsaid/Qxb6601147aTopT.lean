/-
  Seat b6601147a: the walk of FnCoprimesCountIsTotientAndSymmetric.
-/
import Derived.Test.Qxb6601147aPhi
import Derived.Test.Qxb6601147aTopS
namespace Go.Proofs.Qxb6601147a
open Go.RowKit
set_option linter.unusedVariables false
set_option linter.unusedSimpArgs false

/-- What the factor p turns phi into: the numbers that the walk sees. -/
theorem phi_nums {f p : Nat} (hf : f ≤ 65536) (hp : 2 ≤ p) (hp2 : p ≤ 65536) : ∃ x y : Nat, x ≤ 65536 ∧ y ≤ 65536 ∧ (f : Int) / (p : Int) = (x : Int) ∧ (f : Int).tdiv (p : Int) = (x : Int) ∧ IntKind.i64.wrap ((x : Int) * ((p : Int) - 1)) = (y : Int) ∧ Hid (y = f / p * (p - 1)) := by
  have h1 : f / p ≤ f := Nat.div_le_self _ _
  have h2 : f / p * (p - 1) ≤ f := Nat.le_trans (Nat.mul_le_mul_left _ (Nat.sub_le p 1)) (Nat.div_mul_le_self f p)
  refine ⟨f / p, f / p * (p - 1), by omega, by omega, by rw [Int.natCast_ediv], rfl, ?_, rfl⟩
  rw [show (p : Int) - 1 = ((p - 1 : Nat) : Int) by omega, ← Int.natCast_mul, IntKind.wrap_i64]
  omega

theorem cnt_le (r k : Nat) : cnt r k ≤ k := cops_le r k

set_option maxHeartbeats 4000000 in
set_option maxRecDepth 100000 in
theorem topT_in (n : Nat) (h1 : 1 ≤ n) (h2 : n ≤ 65536) (w : World) :
    Calls Try.prog 5 #[.int .i64 n] w fun e w' => e = .returned (.bool true) ∧ Below w.heap.size w w' := by
  go_enter Try.func5, Try.ntmps5
  go_wp2_with fail
  refine (zzcoprimes6 n (by omega) w).mono ?_
  rintro e w1 ⟨v, rfl, hown, hb, _⟩
  obtain ⟨a, cap, rfl, hrow⟩ := row_owned hown
  have HB := hid hb
  have HROW := hid hrow
  clear hown hb hrow
  generalize hN : (cops n n).length = N at HROW
  have HN := hid hN
  have hNn : N ≤ n := by rw [← hN]; exact cops_le n n
  clear hN
  go_wp2
  go_loopw [4, 5, 6] (fun f m p wr => ∃ f' m' p' r : Nat, f' ≤ 65536 ∧ 1 ≤ m' ∧ m' ≤ n ∧ 2 ≤ p' ∧ p' ≤ 257 ∧ f = .int .i64 f' ∧ m = .int .i64 m' ∧ p = .int .i64 p' ∧ wr = w1 ∧ Hid (f' = cnt r n) ∧ Hid (n = m' * r) ∧ Hid (NoDiv p' m') ∧ Hid (Nat.gcd m' r = 1)) (fun _ _ p _ => 258 - (intOf p).toNat)
  case atStart => exact ⟨n, n, 2, 1, h2, h1, Nat.le_refl _, Nat.le_refl _, by omega, rfl, rfl, rfl, rfl, by show _ = _; rw [cnt_one], by show _ = _; omega, fun d h1 h2 => by omega, Nat.gcd_one_right _⟩
  case round =>
    obtain ⟨f, m, p, r, hf, hm1, hmn, hp2, hp257, rfl, rfl, rfl, hw, HF, HW, HD, HC⟩ := hrel
    have hw2 := hw.symm
    subst hw2
    clear hw
    obtain ⟨pp, hpp⟩ : ∃ pp : Nat, pp = p * p := ⟨_, rfl⟩
    have hpq : pp ≤ 66049 := by rw [hpp]; exact Nat.mul_le_mul hp257 hp257
    have hwr : IntKind.i64.wrap ((p : Int) * (p : Int)) = (pp : Int) := by
      rw [← Int.natCast_mul, ← hpp, IntKind.wrap_i64]; omega
    have HPP := hid hpp
    clear hpp
    by_cases hgo : pp ≤ m
    · have hp256 := sq_le (HPP.out ▸ hgo) (by omega)
      by_cases hd : m % p = 0
      · have hdb : ((m : Int) % (p : Int) == 0) = true := by rw [← Int.natCast_emod, hd]; rfl
        have HDM := hid (Nat.dvd_of_mod_eq_zero hd)
        go_wp2
        go_loopw [5] (fun m' wx => ∃ m1 r1 : Nat, 1 ≤ m1 ∧ m1 ≤ m ∧ m' = .int .i64 m1 ∧ wx = w1 ∧ Hid (Div n p m r m1 r1)) (fun m' _ => (intOf m').toNat)
        case atStart => exact ⟨m, r, hm1, Nat.le_refl _, rfl, rfl, Div.start HW.out⟩
        case round =>
          obtain ⟨m1, r1, hm11, hm1m, rfl, hw, HDV⟩ := hrel
          have hw2 := hw.symm
          subst hw2
          clear hw
          by_cases hd1 : m1 % p = 0
          · have hdb1 : ((m1 : Int) % (p : Int) == 0) = true := by rw [← Int.natCast_emod, hd1]; rfl
            have HD1 := hid (Nat.dvd_of_mod_eq_zero hd1)
            obtain ⟨qq, hqq⟩ : ∃ qq : Nat, qq = m1 / p := ⟨_, rfl⟩
            have hq1 : 1 ≤ qq := by rw [hqq]; exact Nat.div_pos (Nat.le_of_dvd hm11 HD1.out) (by omega)
            have hq2 : qq < m1 := by rw [hqq]; exact Nat.div_lt_self hm11 (by omega)
            have hq3 : (m1 : Int) / (p : Int) = (qq : Int) := by rw [hqq, Int.natCast_ediv]
            have hq4 : (m1 : Int).tdiv (p : Int) = (qq : Int) := by rw [hqq]; rfl
            have HQ := hid hqq
            clear hd hd1 hdb hqq
            go_wp2
            go_roundw
            case rel => exact ⟨qq, r1 * p, hq1, by omega, by first | rfl | go_num, by trivial, by rw [HQ.out]; exact HDV.out.step hp2 HD1.out⟩
            case measure => simp [intOf]; omega
          · have hdb1 : ((m1 : Int) % (p : Int) == 0) = false := by rw [← Int.natCast_emod]; simp; omega
            have HD1 : Hid (¬ p ∣ m1) := fun h => hd1 (Nat.mod_eq_zero_of_dvd h)
            obtain ⟨x, y, hx, hy, hx1, hx2, hy1, HY⟩ := phi_nums hf hp2 (by omega)
            clear hd hd1 hdb
            go_wp2
            go_roundw
            case rel =>
              have HP := pr_of_least hp2 HD.out HDM.out
              have e0 : ∀ c, Nat.gcd c r1 = 1 ↔ Nat.gcd c (r * p) = 1 := fun c => by rw [HDV.out.done HDM.out HD1.out c, cop_mul]
              refine ⟨y, m1, p + 1, r1, hy, hm11, by omega, by omega, by omega, by first | rfl | go_num, rfl, by go_num, by trivial, ?_, HDV.out.whole, noDiv_succ (noDiv_mono HD.out HDV.out.part) HD1.out, ?_⟩
              · show y = _
                rw [HY.out, HF.out, phi_step HW.out HP HDM.out (cop_div HC.out HDM.out)]
                unfold cnt; rw [cops_congr e0]
              · exact (HDV.out.done HDM.out HD1.out m1).2 ⟨cop_div HC.out HDV.out.part, (cop_pr HP m1).2 HD1.out⟩
            case measure => simp [intOf]; omega
      · have hdb : ((m : Int) % (p : Int) == 0) = false := by rw [← Int.natCast_emod]; simp; omega
        have HND : Hid (¬ p ∣ m) := fun h => hd (Nat.mod_eq_zero_of_dvd h)
        clear hd
        go_wp2
        go_roundw
        case rel => exact ⟨f, m, p + 1, r, hf, hm1, hmn, by omega, by omega, rfl, rfl, by go_num, by trivial, HF, HW, noDiv_succ HD.out HND.out, HC⟩
        case measure => simp [intOf]; omega
    · have HGO : Hid (m < p * p) := by show _ < _; have := HPP.out; omega
      go_upto_if 43 with (fail)
      go_cut [4] from 8 (fun f' wx => f' = .int .i64 N ∧ wx = w1)
      case first =>
        by_cases hm : 1 < m
        · have HPR := hid (pr_rest HD.out hm HGO.out)
          obtain ⟨x, y, hx, hy, hx1, hx2, hy1, HY⟩ := phi_nums hf hm (by omega)
          go_wp2
          go_meet
          case rel =>
            have e1 : y = N := by
              rw [HY.out, HF.out, phi_step HW.out HPR.out (Nat.dvd_refl m) HC.out, ← HN.out, Nat.mul_comm r m, ← HW.out]; rfl
            subst e1
            exact ⟨by first | rfl | go_num, by trivial⟩
        · go_wp2
          go_meet
          case rel =>
            have e0 := HW.out
            obtain rfl : m = 1 := by omega
            rw [Nat.one_mul] at e0
            have e1 : f = N := by rw [HF.out, ← HN.out, ← e0]; rfl
            subst e1
            exact ⟨rfl, by trivial⟩
      case rest =>
        obtain ⟨rfl, hw⟩ := hcut
        have hw2 := hw.symm
        subst hw2
        clear hw
        clear hf hm1 hmn hp2 hp257 HF HW HD HC hpq hwr HPP hgo HGO
        go_wp2
        generalize Value.int IntKind.i64 (N : Int) = v4
        go_loopw [7] (fun i wx => ∃ k q : Nat, k ≤ N ∧ i = .int .i64 k ∧ wx = w1.drewN q) (fun i _ => N - (intOf i).toNat)
        case atStart => exact ⟨0, 0, Nat.zero_le _, rfl, rfl⟩
        case round =>
          obtain ⟨k, q, hkN, rfl, rfl⟩ := hrel
          by_cases hlt : k < N
          · obtain ⟨b, off, x, rfl, e0, HX⟩ := HROW.out.at k hlt
            obtain ⟨hx1, hx2⟩ := cops_mem n x (List.mem_of_getElem? HX.out)
            rcases Nat.eq_zero_or_pos k with hk0 | hk0
            · subst hk0
              have e0' : w1.cell? ⟨b, off, none⟩ = some (.int .i64 x) := e0
              clear e0
              obtain ⟨q', rfl⟩ : ∃ q' : Nat, N = q' + 1 := ⟨N - 1, by omega⟩
              by_cases hn2 : 2 ≤ n
              · obtain ⟨b', off', z, eb, e1, HZ⟩ := HROW.out.at q' (by omega)
                simp only [Option.some.injEq, Addr.mk.injEq, and_true] at eb
                obtain ⟨rfl, rfl⟩ := eb
                have hsum : x + z = n := cops_sum hn2 (by rw [HN.out]; omega) HX.out HZ.out
                obtain ⟨hz1, hz2⟩ := cops_mem n z (List.mem_of_getElem? HZ.out)
                have hsb : ((x + z) != (n : Int)) = false := by simp; omega
                have hnd : decide ((2 : Int) ≤ (n : Int)) = true := by simp; omega
                go_wp2
                go_quiet (fail)
                go_wp2
                go_quiet (fail)
                go_wp2
                go_roundw
                case rel => exact ⟨1, _, by omega, by go_num, rfl⟩
                case measure => simp [intOf]
              · have hnd : decide ((2 : Int) ≤ (n : Int)) = false := by simp; omega
                go_wp2
                go_quiet (fail)
                go_wp2
                go_quiet (fail)
                go_wp2
                go_roundw
                case rel => exact ⟨1, _, by omega, by go_num, rfl⟩
                case measure => simp [intOf]
            · have hn2 : 2 ≤ n := by omega
              obtain ⟨m', rfl⟩ : ∃ m', k = m' + 1 := ⟨k - 1, by omega⟩
              obtain ⟨q', hq'⟩ : ∃ q' : Nat, N = m' + 1 + 1 + q' := ⟨N - (m' + 1 + 1), by omega⟩
              obtain ⟨b', off', z, eb, e1, HZ⟩ := HROW.out.at q' (by omega)
              simp only [Option.some.injEq, Addr.mk.injEq, and_true] at eb
              obtain ⟨rfl, rfl⟩ := eb
              obtain ⟨b', off', y, eb, e2, HY⟩ := HROW.out.at m' (by omega)
              simp only [Option.some.injEq, Addr.mk.injEq, and_true] at eb
              obtain ⟨rfl, rfl⟩ := eb
              have hsum : x + z = n := cops_sum hn2 (by rw [HN.out, hq']) HX.out HZ.out
              obtain ⟨hz1, hz2⟩ := cops_mem n z (List.mem_of_getElem? HZ.out)
              have hnd : decide ((2 : Int) ≤ (n : Int)) = true := by simp; omega
              have hsb : ((x + z) != (n : Int)) = false := by simp; omega
              have hyx : y < x := cops_next HY.out HX.out
              have hyb : decide (x ≤ y) = false := by simp; omega
              subst hq'
              go_wp2
              go_quiet (fail)
              go_wp2
              go_quiet (fail)
              go_wp2
              go_roundw
              case rel => exact ⟨m' + 2, _, by omega, by go_num, rfl⟩
              case measure => simp [intOf]; omega
          · go_wp2
            go_ret
            exact ⟨rfl, below_drewN HB.out _⟩

set_option maxHeartbeats 4000000 in
theorem topT (n : Int) (w : World) :
    Calls Try.prog 5 #[.int .i64 n] w fun e w' => e = .returned (.bool true) ∧ Below w.heap.size w w' := by
  by_cases h1 : 1 ≤ n
  · by_cases h2 : n ≤ 65536
    · obtain ⟨m, rfl⟩ := Int.eq_ofNat_of_zero_le (show 0 ≤ n by omega)
      exact topT_in m (by omega) (by omega) w
    · go_enter Try.func5, Try.ntmps5
      go_wp2
      go_ret
      exact ⟨rfl, Below.refl _ _⟩
  · go_enter Try.func5, Try.ntmps5
    go_wp2
    go_ret
    exact ⟨rfl, Below.refl _ _⟩

end Go.Proofs.Qxb6601147a
