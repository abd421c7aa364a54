/-
  Seat b6601147a: the walk of FnCoprimesMatchesSieve.
-/
import Derived.Test.Qxb6601147aPrime
import Derived.Test.Qxb6601147aTopF
import Derived.Deep.CutRange
import Derived.WalkSpells
namespace Go.Proofs.Qxb6601147a
open Go.RowKit
set_option linter.unusedVariables false
set_option linter.unusedSimpArgs false

theorem info4 : (Try.prog.info? 4).map (fun i => (i.zero, i.size, i.bytes)) = some (some (.bool false), 1, 1) := by kernel_rfl

theorem sq_le {p m : Nat} (h : p * p ≤ m) (hm : m ≤ 65536) : p ≤ 256 := by
  rcases Nat.lt_or_ge 256 p with h1 | h1
  · have := Nat.mul_le_mul h1 h1; omega
  · exact h1

set_option maxHeartbeats 4000000 in
set_option maxRecDepth 100000 in
theorem topS_in (n : Nat) (h1 : 1 ≤ n) (h2 : n ≤ 65536) (w : World) :
    Calls Try.prog 3 #[.int .i64 n] w fun e w' => e = .returned (.bool true) ∧ Below w.heap.size w w' := by
  obtain ⟨i0, hi0, hz0, hz1, hz2⟩ := info_parts info4
  go_enter Try.func3, Try.ntmps3
  go_wp2_with fail
  refine (zzcoprimes6 n (by omega) w).mono ?_
  rintro e w1 ⟨v, rfl, hown, hb, _⟩
  obtain ⟨a, cap, rfl, hrow⟩ := row_owned hown
  have HB := hid hb
  have HROW := hid hrow
  clear hown hb hrow
  generalize hN : (cops n n).length = N at HROW
  have HN := hid hN
  have hNn : N ≤ n := by rw [← hN]; exact cops_le n n
  clear hN
  go_wp2_with (at_make; refine wpList_make_full _ rfl _ _ 24 rfl w1.heap.size 4 i0 (.bool false) 1 Try.underlying24 hi0 hz0 hz1 _ _ _ _ (n + 1) rfl (by go_num) (by go_num) rfl (by rw [hz2]; omega) (by unfold maxLen; omega) (Nat.le_refl _) ?_)
  intro w2 hown2 hgrow2
  have hb2 : Below w1.heap.size w1 w2 := (Below.refl _ _).grown hgrow2 (Nat.le_refl _) (by simp)
  have k2 := made_ints hown2
  have HM : Hid (Marks w2 w1.heap.size n (fun c => Nat.gcd c 1 ≠ 1)) := ⟨List.replicate (n + 1) false, by simp, by simpa using k2, fun c _ hc => by
    rw [List.getElem?_replicate, if_pos (by omega)]; simp⟩
  have hg2 : w1.heap.size < w2.heap.size := k2.lt
  clear hown2 hgrow2 k2 hi0 hz0 hz1 hz2
  generalize hG : w1.heap.size = G at hb2 HM hg2 ⊢
  have HGS := hid hG
  clear hG
  go_wp2
  go_loopw [5, 6, 7] (fun m p _ wr => ∃ m' p' r : Nat, 1 ≤ m' ∧ m' ≤ n ∧ 2 ≤ p' ∧ p' ≤ 257 ∧ m = .int .i64 m' ∧ p = .int .i64 p' ∧ Hid (n = m' * r) ∧ Hid (NoDiv p' m') ∧ Hid (Marks wr G n (fun c => Nat.gcd c r ≠ 1)) ∧ Hid (Below G w1 wr)) (fun _ p _ _ => 258 - (intOf p).toNat)
  case atStart => exact ⟨n, 2, 1, h1, Nat.le_refl _, Nat.le_refl _, by omega, rfl, rfl, by show _ = _; omega, fun d h1 h2 => by omega, HM, hb2⟩
  case round =>
    clear HM hb2 hg2
    obtain ⟨m, p, r, hm1, hmn, hp2, hp257, rfl, rfl, HW, HD, HM, HBL⟩ := hrel
    obtain ⟨pp, hpp⟩ : ∃ pp : Nat, pp = p * p := ⟨_, rfl⟩
    have hpq : pp ≤ 66049 := by rw [hpp]; exact Nat.mul_le_mul hp257 hp257
    have hwr : IntKind.i64.wrap ((p : Int) * (p : Int)) = (pp : Int) := by
      rw [← Int.natCast_mul, ← hpp, IntKind.wrap_i64]; omega
    have HPP := hid hpp
    clear hpp
    by_cases hgo : pp ≤ m
    · have hp256 := sq_le (HPP.out ▸ hgo) (by omega)
      by_cases hd : m % p = 0
      · have hdb : ((m : Int) % (p : Int) == 0) = true := by rw [← Int.natCast_emod, hd]; rfl
        have HDM := hid (Nat.dvd_of_mod_eq_zero hd)
        go_wp2
        go_loopw [5] (fun m' wx => ∃ m1 r1 : Nat, 1 ≤ m1 ∧ m1 ≤ m ∧ m' = .int .i64 m1 ∧ wx = wr ∧ Hid (Div n p m r m1 r1)) (fun m' _ => (intOf m').toNat)
        case atStart => exact ⟨m, r, hm1, Nat.le_refl _, rfl, rfl, Div.start HW.out⟩
        case round =>
          obtain ⟨m1, r1, hm11, hm1m, rfl, rfl, HDV⟩ := hrel
          by_cases hd1 : m1 % p = 0
          · have hdb1 : ((m1 : Int) % (p : Int) == 0) = true := by rw [← Int.natCast_emod, hd1]; rfl
            have HD1 := hid (Nat.dvd_of_mod_eq_zero hd1)
            obtain ⟨qq, hqq⟩ : ∃ qq : Nat, qq = m1 / p := ⟨_, rfl⟩
            have hq1 : 1 ≤ qq := by rw [hqq]; exact Nat.div_pos (Nat.le_of_dvd hm11 HD1.out) (by omega)
            have hq2 : qq < m1 := by rw [hqq]; exact Nat.div_lt_self hm11 (by omega)
            have hq3 : (m1 : Int) / (p : Int) = (qq : Int) := by rw [hqq, Int.natCast_ediv]
            have hq4 : (m1 : Int).tdiv (p : Int) = (qq : Int) := by rw [hqq]; rfl
            have HQ := hid hqq
            clear hd hd1 hdb hqq
            go_wp2
            go_roundw
            case rel => exact ⟨qq, r1 * p, hq1, by omega, by first | rfl | go_num, by trivial, by rw [HQ.out]; exact HDV.out.step hp2 HD1.out⟩
            case measure => simp [intOf]; omega
          · have hdb1 : ((m1 : Int) % (p : Int) == 0) = false := by rw [← Int.natCast_emod]; simp; omega
            have HD1 : Hid (¬ p ∣ m1) := fun h => hd1 (Nat.mod_eq_zero_of_dvd h)
            clear hd hd1 hdb
            go_wp2
            go_loopw [7] (fun k wx => ∃ i kk : Nat, kk ≤ n + p ∧ k = .int .i64 kk ∧ Hid (kk = p * i ∧ 1 ≤ i) ∧ Hid (Marks wx G n (fun c => Nat.gcd c r ≠ 1 ∨ (p ∣ c ∧ c < p * i))) ∧ Hid (Below G w1 wx)) (fun k _ => n + p + 1 - (intOf k).toNat)
            case atStart => exact ⟨1, p, by omega, rfl, ⟨by omega, Nat.le_refl _⟩, HM.out.iff (fun c h1 h2 => ⟨.inl, fun h => h.elim id (fun ⟨hx, hy⟩ => by have := Nat.le_of_dvd h1 hx; omega)⟩), HBL⟩
            case round =>
              clear HM HBL
              obtain ⟨i, kk, hkk, rfl, HK, HM, HBL⟩ := hrel
              by_cases hkn : kk ≤ n
              · obtain ⟨b, hc, _⟩ := HM.out.cell hkn
                have hf := HM.out.free kk
                go_wp2
                go_roundw
                case rel => exact ⟨i + 1, kk + p, by omega, by go_num, ⟨by rw [HK.out.1, Nat.mul_succ], by have := HK.out.2; omega⟩, (HM.out.set hkn).iff (fun c _ _ => by rw [mult_next (by omega), or_assoc, HK.out.1]), HBL.out.setCell (Nat.le_refl _) _⟩
                case measure => simp [intOf]; omega
              · go_wp2
                go_roundw
                case rel => exact ⟨m1, p + 1, r1, hm11, by omega, by omega, by omega, rfl, by go_num, HDV.out.whole, noDiv_succ (noDiv_mono HD.out HDV.out.part) HD1.out, HM.out.iff (fun c h1 h2 => by
                  have e1 := HDV.out.done HDM.out HD1.out c
                  have e2 := cop_pr (pr_of_least hp2 HD.out HDM.out) c
                  rw [e2] at e1
                  constructor
                  · rintro (h | ⟨h, _⟩) h'
                    · exact h (e1.1 h').1
                    · exact (e1.1 h').2 h
                  · intro h
                    by_cases hcr : Nat.gcd c r = 1
                    · right
                      refine ⟨?_, by have := HK.out.1; omega⟩
                      by_cases hpc : p ∣ c
                      · exact hpc
                      · exact absurd (e1.2 ⟨hcr, hpc⟩) h
                    · exact .inl hcr), HBL⟩
                case measure => simp [intOf]; omega
      · have hdb : ((m : Int) % (p : Int) == 0) = false := by rw [← Int.natCast_emod]; simp; omega
        have HND : Hid (¬ p ∣ m) := fun h => hd (Nat.mod_eq_zero_of_dvd h)
        clear hd
        go_wp2
        go_roundw
        case rel => exact ⟨m, p + 1, r, hm1, hmn, by omega, by omega, rfl, by go_num, HW, noDiv_succ HD.out HND.out, HM, HBL⟩
        case measure => simp [intOf]; omega
    · have HGO : Hid (m < p * p) := by show _ < _; have := HPP.out; omega
      go_upto_if 52 with (fail)
      go_cut [8] from 11 (fun _ wx => Hid (Marks wx G n (fun c => Nat.gcd c n ≠ 1)) ∧ Hid (Below G w1 wx))
      case first =>
        by_cases hm : 1 < m
        · have HPR := hid (pr_rest HD.out hm HGO.out)
          go_wp2
          go_loopw [8] (fun k wx => ∃ i kk : Nat, kk ≤ n + m ∧ k = .int .i64 kk ∧ Hid (kk = m * i ∧ 1 ≤ i) ∧ Hid (Marks wx G n (fun c => Nat.gcd c r ≠ 1 ∨ (m ∣ c ∧ c < m * i))) ∧ Hid (Below G w1 wx)) (fun k _ => n + m + 1 - (intOf k).toNat)
          case atStart => exact ⟨1, m, by omega, rfl, ⟨by omega, Nat.le_refl _⟩, HM.out.iff (fun c h1 h2 => ⟨.inl, fun h => h.elim id (fun ⟨hx, hy⟩ => by have := Nat.le_of_dvd h1 hx; omega)⟩), HBL⟩
          case round =>
            clear HM HBL
            obtain ⟨i, kk, hkk, rfl, HK, HM, HBL⟩ := hrel
            by_cases hkn : kk ≤ n
            · obtain ⟨b, hc, _⟩ := HM.out.cell hkn
              have hf := HM.out.free kk
              go_wp2
              go_roundw
              case rel => exact ⟨i + 1, kk + m, by omega, by go_num, ⟨by rw [HK.out.1, Nat.mul_succ], by have := HK.out.2; omega⟩, (HM.out.set hkn).iff (fun c _ _ => by rw [mult_next (by omega), or_assoc, HK.out.1]), HBL.out.setCell (Nat.le_refl _) _⟩
              case measure => simp [intOf]; omega
            · go_wp2
              go_meet
              case rel => exact ⟨HM.out.iff (fun c h1 h2 => by
                have e1 := cop_mul c m r
                rw [← HW.out] at e1
                have e2 := cop_pr HPR.out c
                rw [e2] at e1
                constructor
                · rintro (h | ⟨h, _⟩) h'
                  · exact h (e1.1 h').2
                  · exact (e1.1 h').1 h
                · intro h
                  by_cases hcr : Nat.gcd c r = 1
                  · right
                    refine ⟨?_, by have := HK.out.1; omega⟩
                    by_cases hpc : m ∣ c
                    · exact hpc
                    · exact absurd (e1.2 ⟨hpc, hcr⟩) h
                  · exact .inl hcr), HBL⟩
        · go_wp2
          go_meet
          case rel => exact ⟨HM.out.iff (fun c h1 h2 => by
            have e1 := HW.out
            obtain rfl : m = 1 := by omega
            rw [Nat.one_mul] at e1
            rw [e1]), HBL⟩
      case rest =>
        clear HM HBL
        obtain ⟨HM, HBL⟩ := hcut
        go_wp2
        go_loopw [9, 10] (fun j c wx => ∃ k l : Nat, k ≤ n ∧ l ≤ N ∧ c = .int .i64 (k + 1 : Nat) ∧ j = .int .i64 l ∧ wx = wc ∧ Hid (l = (cops n k).length)) (fun _ c _ => n + 1 - (intOf c).toNat)
        case atStart => exact ⟨0, 0, Nat.zero_le _, Nat.zero_le _, rfl, rfl, rfl, rfl⟩
        case round =>
          obtain ⟨k, l, hk, hlN, rfl, rfl, hw, HL⟩ := hrel
          have hw2 := hw.symm
          subst hw2
          clear hw
          have HR : Hid (Row .i64 wc a N (cops n n)) := HROW.out.keep (HGS.out ▸ HBL.out)
          by_cases hlt : k < n
          · obtain ⟨b, hc, HBV⟩ := HM.out.cell (c := k + 1) (by omega)
            cases b with
            | true =>
              have HG : Hid (Nat.gcd (k + 1) n ≠ 1) := (HBV.out (by omega)).1 rfl
              go_wp2
              go_roundw
              case rel => exact ⟨k + 1, l, by omega, hlN, by go_num, rfl, by trivial, by show _ = _; rw [cops_miss HG.out, ← HL.out]⟩
              case measure => simp [intOf]; omega
            | false =>
              have HG : Hid (Nat.gcd (k + 1) n = 1) := by
                show _ = _
                by_cases h : Nat.gcd (k + 1) n = 1
                · exact h
                · have := (HBV.out (by omega)).2 h; cases this
              have hlN1 : l + 1 ≤ N := by
                have e1 := cops_hit HG.out
                have e2 := cops_mono (n := n) (k := k + 1) (m := n) (by omega)
                have e3 := HL.out
                have e4 := HN.out
                omega
              obtain ⟨b, off, y, rfl, e0, HY⟩ := HR.out.at l (by omega)
              have hy : y = ((k + 1 : Nat) : Int) := by
                have e1 := cops_at (m := n) (by omega) HG.out
                rw [← HL.out, HY.out] at e1
                simpa using e1
              subst hy
              go_wp2
              go_roundw
              case rel => exact ⟨k + 1, l + 1, by omega, hlN1, by go_num, by go_num, by trivial, by show _ = _; rw [cops_hit HG.out, ← HL.out]⟩
              case measure => simp [intOf]; omega
          · obtain rfl : k = n := by omega
            have hle : ((l : Int) == (N : Int)) = true := by have e1 := HL.out; have e2 := HN.out; simp; omega
            go_wp2
            go_ret
            exact ⟨rfl, HB.out.trans ((HGS.out ▸ HBL.out : Below w1.heap.size w1 wc).mono HB.out.size)⟩

set_option maxHeartbeats 4000000 in
theorem topS (n : Int) (w : World) :
    Calls Try.prog 3 #[.int .i64 n] w fun e w' => e = .returned (.bool true) ∧ Below w.heap.size w w' := by
  by_cases h2 : n ≤ 65536
  · by_cases h1 : 1 ≤ n
    · obtain ⟨m, rfl⟩ := Int.eq_ofNat_of_zero_le (show 0 ≤ n by omega)
      exact topS_in m (by omega) (by omega) w
    · have hne := fun (w : World) (a : Option Addr) (n c : Nat) => Lib.run_eql_slice_nil (P := Try.prog) w 22 3 a n c 0 0 Try.underlying22
      go_enter Try.func3, Try.ntmps3
      go_wp2_with fail
      refine (zzcoprimes6_neg n (by omega) w).mono ?_
      rintro e w' ⟨rfl, rfl⟩
      go_wp2
      go_ret
      exact ⟨rfl, Below.refl _ _⟩
  · go_enter Try.func3, Try.ntmps3
    go_wp2
    go_ret
    exact ⟨rfl, Below.refl _ _⟩

end Go.Proofs.Qxb6601147a
