/-
  Seat b6600404a: the walk of FnRunSetAddRangeThenRemoveEachRestores.
-/
import Derived.Test.Qxb6600404aTopA
import Derived.Test.Qxb6600404aSets
namespace Go.Proofs.Qxb6600404a
open Go.RowKit
set_option linter.unusedVariables false
set_option linter.unusedSimpArgs false

set_option maxHeartbeats 4000000 in
set_option maxRecDepth 100000 in
theorem topB (a0 a1 : Option Addr) (n0 c0 n1 c1 : Nat) (lo hi : List Int) (n p q : Int) (w : World) (h0 : Row .i64 w a0 n0 lo) (h1 : Row .i64 w a1 n1 hi) (m0 : n0 ≤ maxLen) (m1 : n1 ≤ maxLen) (z0 : a0 = none → n0 = 0 ∧ c0 = 0) (z1 : a1 = none → n1 = 0 ∧ c1 = 0) :
    Calls Try.prog 9 #[.slice a0 n0 c0, .slice a1 n1 c1, .int .i64 n, .int .i64 p, .int .i64 q] w fun e w' => e = .returned (.bool true) ∧ Below w.heap.size w w' := by
  have M0 := m0
  have M1 := m1
  unfold maxLen at M0 M1
  have Z0 := hid z0
  have Z1 := hid z1
  clear z0 z1
  by_cases hl0 : n0 ≤ 65536
  · by_cases hl1 : n1 ≤ 65536
    · by_cases hb : -1152921504606846975 ≤ p ∧ p ≤ 1152921504606846975 ∧ -1152921504606846975 ≤ q ∧ q ≤ 1152921504606846975
      · obtain ⟨hp1, hp2, hq1, hq2⟩ := hb
        by_cases hpq16 : q - p ≤ 65536
        · have hne := fun (w : World) (a : Option Addr) (n c : Nat) => run_neq_slice_nil_any (P := Try.prog) w 22 3 a n c 0 0 Try.underlying22
          obtain ⟨i0, hi0, hz0, hz1, hz2⟩ := info_parts info3
          go_enter Try.func9, Try.ntmps9
          go_wp2_with fail
          refine (bytes47 a0 a1 n0 c0 n1 c1 n p q w m0 m1).mono ?_
          rintro e w' ⟨r, rfl, hw⟩
          have hw2 := hw.symm
          subst hw2
          clear hw
          cases r with
          | false =>
            go_wp2
            go_ret
            exact ⟨rfl, Below.refl _ _⟩
          | true =>
            go_wp2_with fail
            refine (canonical a0 a1 n0 c0 n1 c1 lo hi n _ h0 h1 (by omega) (by omega)).mono ?_
            rintro e _ ⟨r, rfl, hr, q1, rfl⟩
            cases r with
            | false =>
              go_wp2
              go_ret
              exact ⟨rfl, Below.of_drewN _ _ _⟩
            | true =>
              obtain ⟨rfl, hcan, hn0, hn1⟩ := hr rfl
              clear hr
              have H0 := hid h0
              have H1 := hid h1
              have HCAN := hid hcan
              clear h0 h1 hcan
              go_wp2_with fail
              refine (overlaps15 a0 a1 n0 c0 c1 lo hi p q _ (H0.out.drewN q1) (H1.out.drewN q1) (by omega)).mono ?_
              rintro e w6 ⟨r2, rfl, hr2, hw⟩
              have hw2 := hw.symm
              subst hw2
              clear hw
              cases r2 with
              | true =>
                go_wp2
                go_ret
                exact ⟨rfl, Below.of_drewN _ _ _⟩
              | false =>
                rw [over_iff H0.out.len H1.out.len] at hr2
                have HNO : Hid (¬ ∃ r ∈ lo.zip hi, r.1 < q ∧ p < r.2 ∧ p < q ∧ r.1 < r.2) := fun h => by have := hr2.2 h; cases this
                clear hr2
                go_upto_if 65 with (fail)
                go_cut [0] from 19 (fun s0 wx => ∃ a c, s0 = .slice a n0 c ∧ Hid (Row .i64 wx a n0 lo) ∧ Below w.heap.size w wx)
                case first =>
                  cases a0 with
                  | none =>
                    obtain ⟨rfl, rfl⟩ := Z0.out rfl
                    go_wp2
                    go_meet
                    case rel => exact ⟨none, 0, rfl, H0.out.drewN _, Below.of_drewN _ _ _⟩
                  | some x0 =>
                    go_wp2_with (at_make; refine wpList_make_full _ rfl _ _ 22 rfl w.heap.size 3 i0 (.int .i64 0) 1 Try.underlying22 hi0 hz0 hz1 _ _ _ _ n0 rfl rfl rfl rfl (by rw [hz2]; omega) (by unfold maxLen; omega) (Nat.le_refl _) ?_)
                    intro w1 hown1 hgrow1
                    have hb1 : Below w.heap.size w w1 := (Below.of_drewN w q1 _).grown hgrow1 (Nat.le_refl _) (by simp)
                    have k1 := made_ints hown1
                    obtain ⟨w2, hr2, hb2, hf2⟩ := run_copy_blk (P := Try.prog) w1 22 22 3 3 i0 1 Try.underlying22 hi0 hz1 (some ⟨w.heap.size, 0, none⟩) (some x0) n0 n0 n0 c0 w.heap.size 0 _ 3 k1 (ints .i64 lo) (by rw [ints_length, H0.out.len]; show _ = min _ _ * 1; omega) (fun h => ⟨rfl, (H0.out.keep hb1).cells (by rw [ints_length, H0.out.len] at h; exact h)⟩) (by omega) (by rw [ints_length, H0.out.len, List.length_replicate]; omega) (ints_one _ _)
                    clear hown1 hgrow1
                    go_wp2
                    go_meet
                    case rel =>
                      rw [splice_all (by rw [ints_length, H0.out.len, List.length_replicate])] at hb2
                      exact ⟨some ⟨w.heap.size, 0, none⟩, n0, rfl, Row.of_blk (rest := []) (by rw [List.append_nil]; exact hb2) H0.out.len, hb1.trans (hf2.below hb1.size (by intro k hk; omega))⟩
                case rest =>
                  obtain ⟨a, c, rfl, HR0, hbx⟩ := hcut
                  go_upto_if 74 with (fail)
                  go_cut [1] from 19 (fun s1 wx => ∃ a' c', s1 = .slice a' n0 c' ∧ Hid (Row .i64 wx a n0 lo) ∧ Hid (Row .i64 wx a' n0 hi) ∧ Below w.heap.size w wx)
                  case first =>
                    cases a1 with
                    | none =>
                      obtain ⟨rfl, rfl⟩ := Z1.out rfl
                      go_wp2
                      go_meet
                      case rel => exact ⟨none, 0, rfl, HR0, H1.out.keep hbx, hbx⟩
                    | some x1 =>
                      go_wp2_with (at_make; refine wpList_make_full _ rfl _ _ 22 rfl w.heap.size 3 i0 (.int .i64 0) 1 Try.underlying22 hi0 hz0 hz1 _ _ _ _ n0 rfl rfl rfl rfl (by rw [hz2]; omega) (by unfold maxLen; omega) hbx.size ?_)
                      intro w1 hown1 hgrow1
                      have hb1 : Below w.heap.size w w1 := hbx.grown hgrow1 hbx.size (by simp)
                      have hb1' : Below wc.heap.size wc w1 := (Below.refl _ _).grown hgrow1 (Nat.le_refl _) (by simp)
                      have k1 := made_ints hown1
                      obtain ⟨w2, hr2, hb2, hf2⟩ := run_copy_blk (P := Try.prog) w1 22 22 3 3 i0 1 Try.underlying22 hi0 hz1 (some ⟨wc.heap.size, 0, none⟩) (some x1) n0 n0 n0 c1 wc.heap.size 0 _ 3 k1 (ints .i64 hi) (by rw [ints_length, H1.out.len]; show _ = min _ _ * 1; omega) (fun h => ⟨rfl, (H1.out.keep hb1).cells (by rw [ints_length, H1.out.len] at h; exact h)⟩) (by omega) (by rw [ints_length, H1.out.len, List.length_replicate]; omega) (ints_one _ _)
                      clear hown1 hgrow1
                      go_wp2
                      go_meet
                      case rel =>
                        rw [splice_all (by rw [ints_length, H1.out.len, List.length_replicate])] at hb2
                        have hb3 : Below wc.heap.size wc w2 := hb1'.trans (hf2.below hb1'.size (by intro k hk; omega))
                        exact ⟨some ⟨wc.heap.size, 0, none⟩, n0, rfl, HR0.out.keep hb3, Row.of_blk (rest := []) (by rw [List.append_nil]; exact hb2) H1.out.len, hbx.trans (hb3.mono hbx.size)⟩
                  case rest =>
                    clear HR0 hbx
                    obtain ⟨a', c', rfl, HR0, HR1, hbx⟩ := hcut
                    obtain ⟨wy, hwy⟩ : ∃ wy : World, wy = wc := ⟨_, rfl⟩
                    rw [← hwy] at HR0 HR1 hbx ⊢
                    clear hwy
                    have HPW := hid (canon_pw HR0.out.len HR1.out.len HCAN.out)
                    have HBD := hid (canon_bd HR0.out.len HR1.out.len HCAN.out)
                    have HLN : Hid ((lo.zip hi).length = n0) := by show _ = _; rw [List.length_zip, HR0.out.len, HR1.out.len]; omega
                    clear hi0 hz0 hz1 hz2 hne HCAN H0 H1 Z0 Z1 m0 m1 M0 M1
                    go_wp2_with fail
                    refine (runSetOf a a' n0 c c' lo hi n wy HR0.out HR1.out (by omega)).mono ?_
                    rintro e w3 ⟨rfl, ⟨v, hrs⟩, hb3⟩
                    go_wp2_with fail
                    refine (add13 hdr0 (by decide) wy.heap.size wy.heap.size v (lo.zip hi) n p q w3 (Nat.le_refl _) hrs HPW.out.asc (by rw [HLN.out]; omega) hn0 hn1 hp1 hq2).mono ?_
                    rintro e w4 ⟨r, v', rs', n', rfl, hrs4, hfr, hat, hcase⟩
                    have hb4 : Below wy.heap.size wy w4 := hb3.trans (hfr.below hb3.size (by
                      rintro k (rfl | hk)
                      · exact Nat.le_refl _
                      · exact (hrs.row.lt k hk).1))
                    -- what the set is now
                    obtain ⟨m, hm0, hm1, hm2⟩ : ∃ m : Int, p ≤ m ∧ q ≤ m ∧ (m ≤ q ∨ m ≤ p) := by
                      rcases Int.lt_or_le p q with h | h
                      · exact ⟨q, by omega, by omega, by omega⟩
                      · exact ⟨p, by omega, by omega, by omega⟩
                    obtain ⟨hr1, hn', hpw', hmem', hlen'⟩ : r = true ∧ n' = n + (m - p) ∧ Pw rs' ∧ (∀ z, Mem rs' z ↔ Mem (lo.zip hi) z ∨ (p ≤ z ∧ z < m)) ∧ rs'.length ≤ n0 + 1 := by
                      rcases hcase with ⟨hqp, rfl, rfl, rfl⟩ | ⟨hpq, rfl, rfl, rfl, i, y, hiy, hy1, hy2⟩ | ⟨hpq, rfl, hn', L, R, he, hL, hR, ha⟩
                      · refine ⟨rfl, by omega, HPW.out, fun z => ⟨fun h => .inl h, fun h => ?_⟩, by rw [HLN.out]; omega⟩
                        rcases h with h | h
                        · exact h
                        · omega
                      · exact absurd ⟨y, List.mem_of_getElem? hiy, hy2, hy1, hpq, HPW.out.2 y (List.mem_of_getElem? hiy)⟩ HNO.out
                      · have hpw := HPW.out
                        rw [he] at hpw
                        obtain ⟨h1, h2⟩ := add_sets hpw hpq hL hR ha
                        refine ⟨rfl, by omega, h1, fun z => ?_, ?_⟩
                        · rw [h2 z, ← he]
                          constructor
                          · rintro (h | h)
                            · exact .inl h
                            · exact .inr (by omega)
                          · rintro (h | h)
                            · exact .inl h
                            · exact .inr (by omega)
                        · have h3 := addTo_length ha
                          have h4 := HLN.out
                          rw [he, List.length_append] at h4
                          omega
                    subst hr1
                    have HPW' := hid hpw'
                    have HM' := hid hmem'
                    have HBD' : Hid (Bd rs') := by
                      intro r hr
                      refine bd_of_mem hpw' (lo := -1152921504606846975) (hi := 1152921504606846975) (fun z hz => ?_) r hr
                      rcases (hmem' z).1 hz with h | h
                      · exact mem_of_bd HBD.out z h
                      · omega
                    have HN' := hid hn'
                    have HRS4 := hid hrs4
                    clear hcase hfr hat hrs hb3 hn' hpw' hmem' hrs4
                    go_wp2
                    go_loopw [14] (fun i wr => ∃ x : Int, i = .int .i64 x ∧ p ≤ x ∧ x ≤ m ∧ Below w4.heap.size w4 wr) (fun i _ => (m - intOf i).toNat)
                    case atStart => exact ⟨p, rfl, by omega, hm0, Below.refl _ _⟩
                    case round =>
                      obtain ⟨x, rfl, hx0, hx1, hbr⟩ := hrel
                      by_cases hlt : x < q
                      · have hrsr := HRS4.out.keep hbr
                        have hmx : Hid (∃ q ∈ rs', q.1 ≤ x ∧ x < q.2) := (HM'.out x).2 (.inr (by omega))
                        go_wp2_with fail
                        refine (has48 hdr0 wy.heap.size wy.heap.size v' rs' n' x wr hrsr HPW'.out (by omega)).mono ?_
                        rintro e w5 ⟨r, rfl, hr, hb5⟩
                        obtain rfl : r = true := hr.2 hmx.out
                        clear hr hrsr
                        go_wp2
                        go_roundw
                        case rel => exact ⟨x + 1, rfl, by omega, by omega, hbr.trans (hb5.mono hbr.size)⟩
                        case measure => simp [intOf]; omega
                      · have HRS5 : Hid (RS mk0 66 wr wy.heap.size wy.heap.size v' rs' n') := HRS4.out.keep hbr
                        have hb5 : Below wy.heap.size wy wr := hb4.trans (hbr.mono hb4.size)
                        clear hbr
                        go_wp2
                        clear hx0 hx1 hlt
                        go_loopw [15] (fun i wr => ∃ (x : Int) (v : Value) (rs : List (Int × Int)) (n1 : Int), i = .int .i64 x ∧ p ≤ x ∧ x ≤ m ∧ Hid (RS mk0 66 wr wy.heap.size wy.heap.size v rs n1) ∧ Hid (n1 = n + (m - x)) ∧ Hid (Pw rs) ∧ Hid (Bd rs) ∧ Hid (∀ z, Mem rs z ↔ Mem (lo.zip hi) z ∨ (x ≤ z ∧ z < m)) ∧ (rs.length : Int) ≤ n0 + 1 + (x - p) ∧ Below wy.heap.size wy wr) (fun i _ => (m - intOf i).toNat)
                        case atStart => exact ⟨p, v', rs', n', rfl, by omega, hm0, HRS5, HN', HPW', HBD', HM', by omega, hb5⟩
                        case round =>
                          clear HRS5 hb5
                          obtain ⟨x, vv, rr, nn, rfl, hx0, hx1, HRS6, HN6, HPW6, HBD6, HM6, hlen6, hb6⟩ := hrel
                          by_cases hlt : x < q
                          · have hmx : Mem rr x := (HM6.out x).2 (.inr (by omega))
                            have hMX := hid hmx
                            have hnn := HN6.out
                            go_wp2_with fail
                            refine (rem49 hdr0 (by decide) wy.heap.size wy.heap.size vv rr nn x wr (Nat.le_refl _) HRS6.out HPW6.out HBD6.out (by omega) (by omega) (by omega)).mono ?_
                            rintro e w7 ⟨r, v7, rs7, n7, rfl, hrs7, hfr7, hat7, hcase7⟩
                            have hb7 : Below wy.heap.size wy w7 := hb6.trans (hfr7.below hb6.size (by
                              rintro k (rfl | hk)
                              · exact Nat.le_refl _
                              · exact (HRS6.out.row.lt k hk).1))
                            rcases hcase7 with ⟨rfl, _, _, hno⟩ | ⟨rfl, hn7, L, y, R, he, hy1, hy2, hrs7'⟩
                            · obtain ⟨y, hy, h1, h2⟩ := hMX.out
                              exact absurd ⟨h1, h2⟩ (hno y hy)
                            · have hpw := HPW6.out
                              rw [he] at hpw
                              obtain ⟨s1, s2⟩ := rem_sets hpw hy1 hy2
                              rw [← hrs7'] at s1 s2
                              rw [← he] at s2
                              have HS1 := hid s1
                              have HS2 : Hid (∀ z, Mem rs7 z ↔ Mem (lo.zip hi) z ∨ (x + 1 ≤ z ∧ z < m)) := by
                                intro z
                                rw [s2 z, HM6.out z]
                                constructor
                                · rintro ⟨h | h, h'⟩
                                  · exact .inl h
                                  · exact .inr (by omega)
                                · rintro (h | h)
                                  · refine ⟨.inl h, fun e => ?_⟩
                                    subst e
                                    obtain ⟨y', hy', h1, h2⟩ := h
                                    exact HNO.out ⟨y', hy', by omega, by omega, by omega, by omega⟩
                                  · exact ⟨.inr (by omega), by omega⟩
                              have HL7 : Hid ((rs7.length : Int) ≤ n0 + 1 + (x + 1 - p)) := by
                                show _ ≤ _
                                have h1 := mid_length y x
                                have h2 : rr.length = L.length + (R.length + 1) := by rw [he]; simp
                                have h3 : rs7.length = L.length + (remMid y x).length + R.length := by rw [hrs7']; simp; omega
                                omega
                              have HB7 : Hid (Bd rs7) := by
                                intro r hr
                                refine bd_of_mem s1 (lo := -1152921504606846975) (hi := 1152921504606846975) (fun z hz => ?_) r hr
                                rcases (HS2.out z).1 hz with h | h
                                · exact mem_of_bd HBD.out z h
                                · omega
                              have HN7 : Hid (n7 = n + (m - (x + 1))) := by show _ = _; omega
                              have HRS7 := hid hrs7
                              clear hn7 he hrs7' hpw s1 s2 hrs7 hfr7 hat7 hnn hmx
                              go_wp2
                              go_roundw
                              case rel => exact ⟨x + 1, v7, rs7, n7, rfl, by omega, by omega, HRS7, HN7, HS1, HB7, HS2, HL7.out, hb7⟩
                              case measure => simp [intOf]; omega
                          · obtain rfl : rr = lo.zip hi := runs_unique _ _ HPW6.out HPW.out (fun z => by
                              rw [HM6.out z]
                              constructor
                              · rintro (h | h)
                                · exact h
                                · omega
                              · exact fun h => .inl h)
                            obtain rfl : nn = n := by have := HN6.out; omega
                            clear HN6 HM6 hlen6
                            by_cases hpq : p < q
                            · go_wp2_with fail
                              refine (rem49 hdr0 (by decide) wy.heap.size wy.heap.size vv (lo.zip hi) nn p wr (Nat.le_refl _) HRS6.out HPW.out HBD.out (by rw [HLN.out]; omega) (by omega) (by omega)).mono ?_
                              rintro e w7 ⟨r, vF, rs7, n7, rfl, hrsF, hfr7, hat7, hcase7⟩
                              have hbF : Below wy.heap.size wy w7 := hb6.trans (hfr7.below hb6.size (by
                                rintro k (rfl | hk)
                                · exact Nat.le_refl _
                                · exact (HRS6.out.row.lt k hk).1))
                              rcases hcase7 with ⟨rfl, h7, h8, hno⟩ | ⟨rfl, hn7, L, y, R, he, hy1, hy2, hrs7'⟩
                              · subst h7
                                subst h8
                                clear hno hfr7 hat7 HRS6 HN' HPW' HM' HBD' HRS4 hb4 hb6 HPW6 HBD6
                                go_wp2_with fail
                                refine (runs14 hdr0 wy.heap.size wy.heap.size vF (lo.zip hi) n7 _ hrsF (by rw [HLN.out]; omega)).mono ?_
                                rintro e w9 ⟨g0, g1, rfl, hr0, hr1, hb9⟩
                                have hball : Below wy.heap.size wy w9 := hbF.trans (hb9.mono hbF.size)
                                have hA := HR0.out.keep hball
                                have hB := HR1.out.keep hball
                                have HBW : Hid (Below w.heap.size w w9) := hbx.trans (hball.mono hbx.size)
                                have e1 : (lo.zip hi).map (·.1) = lo := List.map_fst_zip (by have := hA.len; have := hB.len; omega)
                                have e2 : (lo.zip hi).map (·.2) = hi := List.map_snd_zip (by have := hA.len; have := hB.len; omega)
                                rw [e1, HLN.out] at hr0
                                rw [e2, HLN.out] at hr1
                                rw [HLN.out]
                                clear e1 e2 hb9 hball hrsF hbF HR0 HR1
                                go_wp2_with fail
                                refine (equalInts (some ⟨g0, 0, none⟩) a n0 n0 n0 c lo lo w9 hr0 hA (by omega)).mono ?_
                                rintro e w10 ⟨rfl, q7, rfl⟩
                                rw [decide_eq_true (rfl : lo = lo)]
                                go_wp2_with fail
                                refine (equalInts (some ⟨g1, 0, none⟩) a' n0 n0 n0 c' hi hi _ (hr1.drewN q7) (hB.drewN q7) (by omega)).mono ?_
                                rintro e w11 ⟨rfl, q8, rfl⟩
                                rw [decide_eq_true (rfl : hi = hi)]
                                go_wp2
                                go_ret
                                exact ⟨rfl, below_drewN HBW.out _⟩
                              · exact absurd ⟨y, by rw [he]; simp, by omega, by omega, hpq, by omega⟩ HNO.out
                            · have hrsF := HRS6.out
                              have hbF := hb6
                              obtain ⟨vF, hvF⟩ : ∃ vF, vF = vv := ⟨_, rfl⟩
                              rw [← hvF] at hrsF
                              clear hvF HRS6 HN' HPW' HM' HBD' HRS4 hb4 hb6 HPW6 HBD6
                              go_wp2_with fail
                              refine (runs14 hdr0 wy.heap.size wy.heap.size vF (lo.zip hi) nn _ hrsF (by rw [HLN.out]; omega)).mono ?_
                              rintro e w9 ⟨g0, g1, rfl, hr0, hr1, hb9⟩
                              have hball : Below wy.heap.size wy w9 := hbF.trans (hb9.mono hbF.size)
                              have hA := HR0.out.keep hball
                              have hB := HR1.out.keep hball
                              have HBW : Hid (Below w.heap.size w w9) := hbx.trans (hball.mono hbx.size)
                              have e1 : (lo.zip hi).map (·.1) = lo := List.map_fst_zip (by have := hA.len; have := hB.len; omega)
                              have e2 : (lo.zip hi).map (·.2) = hi := List.map_snd_zip (by have := hA.len; have := hB.len; omega)
                              rw [e1, HLN.out] at hr0
                              rw [e2, HLN.out] at hr1
                              rw [HLN.out]
                              clear e1 e2 hb9 hball hrsF hbF HR0 HR1
                              go_wp2_with fail
                              refine (equalInts (some ⟨g0, 0, none⟩) a n0 n0 n0 c lo lo w9 hr0 hA (by omega)).mono ?_
                              rintro e w10 ⟨rfl, q7, rfl⟩
                              rw [decide_eq_true (rfl : lo = lo)]
                              go_wp2_with fail
                              refine (equalInts (some ⟨g1, 0, none⟩) a' n0 n0 n0 c' hi hi _ (hr1.drewN q7) (hB.drewN q7) (by omega)).mono ?_
                              rintro e w11 ⟨rfl, q8, rfl⟩
                              rw [decide_eq_true (rfl : hi = hi)]
                              go_wp2
                              go_ret
                              exact ⟨rfl, below_drewN HBW.out _⟩
        · have hgt : 65536 < q - p := by omega
          go_enter Try.func9, Try.ntmps9
          go_wp2_with fail
          refine (bytes47 a0 a1 n0 c0 n1 c1 n p q w m0 m1).mono ?_
          rintro e w' ⟨r, rfl, hw⟩
          have hw2 := hw.symm
          subst hw2
          clear hw
          cases r with
          | false =>
            go_wp2
            go_ret
            exact ⟨rfl, Below.refl _ _⟩
          | true =>
            go_wp2
            go_ret
            exact ⟨rfl, Below.refl _ _⟩
      · go_enter Try.func9, Try.ntmps9
        go_wp2_with fail
        refine (bytes47 a0 a1 n0 c0 n1 c1 n p q w m0 m1).mono ?_
        rintro e w' ⟨r, rfl, hw⟩
        have hw2 := hw.symm
        subst hw2
        clear hw
        cases r with
        | false =>
          go_wp2
          go_ret
          exact ⟨rfl, Below.refl _ _⟩
        | true =>
          by_cases d1 : p < -1152921504606846975
          · go_wp2
            go_ret
            exact ⟨rfl, Below.refl _ _⟩
          · by_cases d2 : 1152921504606846975 < p
            · go_wp2
              go_ret
              exact ⟨rfl, Below.refl _ _⟩
            · by_cases d3 : q < -1152921504606846975
              · go_wp2
                go_ret
                exact ⟨rfl, Below.refl _ _⟩
              · have d4 : 1152921504606846975 < q := by omega
                go_wp2
                go_ret
                exact ⟨rfl, Below.refl _ _⟩
    · go_enter Try.func9, Try.ntmps9
      go_wp2_with fail
      refine (bytes47 a0 a1 n0 c0 n1 c1 n p q w m0 m1).mono ?_
      rintro e w' ⟨r, rfl, hw⟩
      have hw2 := hw.symm
      subst hw2
      clear hw
      cases r with
      | false =>
        go_wp2
        go_ret
        exact ⟨rfl, Below.refl _ _⟩
      | true =>
        go_wp2
        go_ret
        exact ⟨rfl, Below.refl _ _⟩
  · go_enter Try.func9, Try.ntmps9
    go_wp2_with fail
    refine (bytes47 a0 a1 n0 c0 n1 c1 n p q w m0 m1).mono ?_
    rintro e w' ⟨r, rfl, hw⟩
    have hw2 := hw.symm
    subst hw2
    clear hw
    cases r with
    | false =>
      go_wp2
      go_ret
      exact ⟨rfl, Below.refl _ _⟩
    | true =>
      go_wp2
      go_ret
      exact ⟨rfl, Below.refl _ _⟩

end Go.Proofs.Qxb6600404a
