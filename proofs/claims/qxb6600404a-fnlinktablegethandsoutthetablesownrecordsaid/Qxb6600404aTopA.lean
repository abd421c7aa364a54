/-
  Seat b6600404a: the walk of FnRunSetAddRangeIsIntervalUnion.
-/
import Derived.Test.Qxb6600404aPlain
import Derived.Deep.CutRange
import Derived.WalkSpells
import Derived.OpenShut
namespace Go.Proofs.Qxb6600404a
open Go.RowKit
set_option linter.unusedVariables false
set_option linter.unusedSimpArgs false

theorem row_of {k : IntKind} {w : World} {a : Option Addr} {len cap : Nat} {zs : List Int} (h : (a = none ∧ len = 0 ∧ cap = 0 ∧ zs = []) ∨
    ∃ x, a = some x ∧ len ≤ cap ∧ cap ≤ maxLen ∧ zs.length = cap ∧ (∀ i, i < zs.length → w.cell? (x.add i) = some (.int k (zs.getD i 0))) ∧ ∀ n ∈ zs, (Lit.int k n).wf = true) :
    Row k w a len (zs.take len) ∧ len ≤ maxLen ∧ (a = none → len = 0 ∧ cap = 0) := by
  rcases h with ⟨rfl, rfl, rfl, rfl⟩ | ⟨x, rfl, hlc, hcm, hz, hcell, _⟩
  · exact ⟨⟨rfl, fun h => absurd h (Nat.lt_irrefl 0)⟩, Nat.zero_le _, fun _ => ⟨rfl, rfl⟩⟩
  · refine ⟨⟨by rw [List.length_take]; omega, fun hp => ?_⟩, by omega, fun h => by cases h⟩
    obtain ⟨b, off, rfl, hc⟩ := ints_at hcell (by omega)
    refine ⟨b, off, rfl, fun i v hv => ?_⟩
    rw [List.getElem?_take] at hv
    split at hv
    · rename_i hi
      rw [hc i (by omega)]
      simp [hv]
    · cases hv

theorem Row.cells {k : IntKind} {w : World} {a : Option Addr} {n : Nat} {xs : List Int} (h : Row k w a n xs) (hp : 0 < n) : ∃ ad, a = some ad ∧ ∀ j v, (ints k xs)[j]? = some v → w.cell? (ad.add j) = some v := by
  obtain ⟨b, off, e, hc⟩ := h.2 hp
  refine ⟨_, e, fun j v hv => ?_⟩
  rw [Addr.add_lit]
  simp only [ints, List.getElem?_map, Option.map_eq_some_iff] at hv
  obtain ⟨x, hx, rfl⟩ := hv
  exact hc j x hx

theorem ints_one (k : IntKind) (xs : List Int) : ∀ v ∈ ints k xs, v.oneCell' = true := by
  intro v hv
  simp only [ints, List.mem_map] at hv
  obtain ⟨_, _, rfl⟩ := hv
  rfl

theorem splice_all {α : Type} {L cs : List α} (h : cs.length = L.length) : splice L 0 cs = cs := by simp [splice, h]
theorem addTo_length {L R rs' : List (Int × Int)} {a b : Int} (h : AddTo L R a b rs') : rs'.length ≤ L.length + R.length + 1 := by
  rcases h with ⟨L0, p, q, R0, rfl, _, rfl, _, rfl⟩ | ⟨L0, p, rfl, _, _, rfl⟩ | ⟨q, R0, _, rfl, _, rfl⟩ | ⟨_, _, rfl⟩ <;> simp <;> omega

set_option maxHeartbeats 400000 in
theorem add13 {mk : Value → Value → List Value} {T : TypeId} {o : Nat} (H : Hdr mk o) (hT : T ≠ 68) (B s : Nat) (v : Value) (rs : List (Int × Int)) (n lo hi : Int) (w : World) (hBs : B ≤ s) (hrs : RS mk T w B s v rs n) (hasc : Asc rs) (hlen : rs.length ≤ 100000000) (hn0 : 0 ≤ n) (hn1 : n ≤ 2305843009213693950)
    (hlo : -1152921504606846975 ≤ lo) (hhi : hi ≤ 1152921504606846975) :
    Calls Try.prog 13 #[.pointer (some ⟨s, o, none⟩), .int .i64 lo, .int .i64 hi] w (AddPost mk T B s v rs n lo hi w) := by
  go_enter Try.func13, Try.ntmps13
  go_wp2_with fail
  refine (add50 H hT B s v rs n lo hi w hBs hrs hasc hlen hn0 hn1 hlo hhi).mono ?_
  rintro e w' ⟨r, v', rs', n', rfl, h⟩
  go_wp2
  go_ret
  exact ⟨r, v', rs', n', rfl, h⟩

set_option maxHeartbeats 4000000 in
set_option maxRecDepth 100000 in
theorem topA (a0 a1 : Option Addr) (n0 c0 n1 c1 : Nat) (lo hi : List Int) (n p q : Int) (w : World) (h0 : Row .i64 w a0 n0 lo) (h1 : Row .i64 w a1 n1 hi) (m0 : n0 ≤ maxLen) (m1 : n1 ≤ maxLen) (z0 : a0 = none → n0 = 0 ∧ c0 = 0) (z1 : a1 = none → n1 = 0 ∧ c1 = 0) :
    Calls Try.prog 3 #[.slice a0 n0 c0, .slice a1 n1 c1, .int .i64 n, .int .i64 p, .int .i64 q] w fun e w' => e = .returned (.bool true) ∧ Below w.heap.size w w' := by
  have M0 := m0
  have M1 := m1
  unfold maxLen at M0 M1
  have Z0 := hid z0
  have Z1 := hid z1
  clear z0 z1
  by_cases hl0 : n0 ≤ 65536
  · by_cases hl1 : n1 ≤ 65536
    · by_cases hb : -1152921504606846975 ≤ p ∧ p ≤ 1152921504606846975 ∧ -1152921504606846975 ≤ q ∧ q ≤ 1152921504606846975
      · obtain ⟨hp1, hp2, hq1, hq2⟩ := hb
        have hne := fun (w : World) (a : Option Addr) (n c : Nat) => run_neq_slice_nil_any (P := Try.prog) w 22 3 a n c 0 0 Try.underlying22
        obtain ⟨i0, hi0, hz0, hz1, hz2⟩ := info_parts info3
        go_enter Try.func3, Try.ntmps3
        go_wp2_with fail
        refine (bytes10 a0 a1 n0 c0 n1 c1 n p q w m0 m1).mono ?_
        rintro e w' ⟨r, rfl, hw⟩
        have hw2 := hw.symm
        subst hw2
        clear hw
        cases r with
        | false =>
          go_wp2
          go_ret
          exact ⟨rfl, Below.refl _ _⟩
        | true =>
          go_wp2_with fail
          refine (canonical a0 a1 n0 c0 n1 c1 lo hi n _ h0 h1 (by omega) (by omega)).mono ?_
          rintro e _ ⟨r, rfl, hr, q1, rfl⟩
          cases r with
          | false =>
            go_wp2
            go_ret
            exact ⟨rfl, Below.of_drewN _ _ _⟩
          | true =>
            obtain ⟨rfl, hcan, hn0, hn1⟩ := hr rfl
            clear hr
            have H0 := hid h0
            have H1 := hid h1
            have HCAN := hid hcan
            clear h0 h1 hcan
            go_upto_if 56 with (fail)
            go_cut [0] from 21 (fun s0 wx => ∃ a c, s0 = .slice a n0 c ∧ Hid (Row .i64 wx a n0 lo) ∧ Below w.heap.size w wx)
            case first =>
              cases a0 with
              | none =>
                obtain ⟨rfl, rfl⟩ := Z0.out rfl
                go_wp2
                go_meet
                case rel => exact ⟨none, 0, rfl, H0.out.drewN _, Below.of_drewN _ _ _⟩
              | some x0 =>
                go_wp2_with (at_make; refine wpList_make_full _ rfl _ _ 22 rfl w.heap.size 3 i0 (.int .i64 0) 1 Try.underlying22 hi0 hz0 hz1 _ _ _ _ n0 rfl rfl rfl rfl (by rw [hz2]; omega) (by unfold maxLen; omega) (Nat.le_refl _) ?_)
                intro w1 hown1 hgrow1
                have hb1 : Below w.heap.size w w1 := (Below.of_drewN w q1 _).grown hgrow1 (Nat.le_refl _) (by simp)
                have k1 := made_ints hown1
                obtain ⟨w2, hr2, hb2, hf2⟩ := run_copy_blk (P := Try.prog) w1 22 22 3 3 i0 1 Try.underlying22 hi0 hz1 (some ⟨w.heap.size, 0, none⟩) (some x0) n0 n0 n0 c0 w.heap.size 0 _ 3 k1 (ints .i64 lo) (by rw [ints_length, H0.out.len]; show _ = min _ _ * 1; omega) (fun h => ⟨rfl, (H0.out.keep hb1).cells (by rw [ints_length, H0.out.len] at h; exact h)⟩) (by omega) (by rw [ints_length, H0.out.len, List.length_replicate]; omega) (ints_one _ _)
                clear hown1 hgrow1
                go_wp2
                go_meet
                case rel =>
                  rw [splice_all (by rw [ints_length, H0.out.len, List.length_replicate])] at hb2
                  exact ⟨some ⟨w.heap.size, 0, none⟩, n0, rfl, Row.of_blk (rest := []) (by rw [List.append_nil]; exact hb2) H0.out.len, hb1.trans (hf2.below hb1.size (by intro k hk; omega))⟩
            case rest =>
              obtain ⟨a, c, rfl, HR0, hbx⟩ := hcut
              go_upto_if 65 with (fail)
              go_cut [1] from 21 (fun s1 wx => ∃ a' c', s1 = .slice a' n0 c' ∧ Hid (Row .i64 wx a n0 lo) ∧ Hid (Row .i64 wx a' n0 hi) ∧ Below w.heap.size w wx)
              case first =>
                cases a1 with
                | none =>
                  obtain ⟨rfl, rfl⟩ := Z1.out rfl
                  go_wp2
                  go_meet
                  case rel => exact ⟨none, 0, rfl, HR0, H1.out.keep hbx, hbx⟩
                | some x1 =>
                  go_wp2_with (at_make; refine wpList_make_full _ rfl _ _ 22 rfl w.heap.size 3 i0 (.int .i64 0) 1 Try.underlying22 hi0 hz0 hz1 _ _ _ _ n0 rfl rfl rfl rfl (by rw [hz2]; omega) (by unfold maxLen; omega) hbx.size ?_)
                  intro w1 hown1 hgrow1
                  have hb1 : Below w.heap.size w w1 := hbx.grown hgrow1 hbx.size (by simp)
                  have hb1' : Below wc.heap.size wc w1 := (Below.refl _ _).grown hgrow1 (Nat.le_refl _) (by simp)
                  have k1 := made_ints hown1
                  obtain ⟨w2, hr2, hb2, hf2⟩ := run_copy_blk (P := Try.prog) w1 22 22 3 3 i0 1 Try.underlying22 hi0 hz1 (some ⟨wc.heap.size, 0, none⟩) (some x1) n0 n0 n0 c1 wc.heap.size 0 _ 3 k1 (ints .i64 hi) (by rw [ints_length, H1.out.len]; show _ = min _ _ * 1; omega) (fun h => ⟨rfl, (H1.out.keep hb1).cells (by rw [ints_length, H1.out.len] at h; exact h)⟩) (by omega) (by rw [ints_length, H1.out.len, List.length_replicate]; omega) (ints_one _ _)
                  clear hown1 hgrow1
                  go_wp2
                  go_meet
                  case rel =>
                    rw [splice_all (by rw [ints_length, H1.out.len, List.length_replicate])] at hb2
                    have hb3 : Below wc.heap.size wc w2 := hb1'.trans (hf2.below hb1'.size (by intro k hk; omega))
                    exact ⟨some ⟨wc.heap.size, 0, none⟩, n0, rfl, HR0.out.keep hb3, Row.of_blk (rest := []) (by rw [List.append_nil]; exact hb2) H1.out.len, hbx.trans (hb3.mono hbx.size)⟩
              case rest =>
                clear HR0 hbx
                obtain ⟨a', c', rfl, HR0, HR1, hbx⟩ := hcut
                obtain ⟨wy, hwy⟩ : ∃ wy : World, wy = wc := ⟨_, rfl⟩
                rw [← hwy] at HR0 HR1 hbx ⊢
                clear hwy
                have HPW := hid (canon_pw HR0.out.len HR1.out.len HCAN.out)
                have HLN : Hid ((lo.zip hi).length = n0) := by show _ = _; rw [List.length_zip, HR0.out.len, HR1.out.len]; omega
                clear hi0 hz0 hz1 hz2 hne HCAN H0 H1 Z0 Z1 m0 m1 M0 M1
                go_wp2_with fail
                refine (runSetOf a a' n0 c c' lo hi n wy HR0.out HR1.out (by omega)).mono ?_
                rintro e w3 ⟨rfl, ⟨v, hrs⟩, hb3⟩
                go_wp2_with fail
                refine (add13 hdr0 (by decide) wy.heap.size wy.heap.size v (lo.zip hi) n p q w3 (Nat.le_refl _) hrs HPW.out.asc (by rw [HLN.out]; omega) hn0 hn1 hp1 hq2).mono ?_
                rintro e w4 ⟨r, v', rs', n', rfl, hrs4, hfr, hat, hcase⟩
                have hb4 : Below wy.heap.size w3 w4 := hfr.below hb3.size (by
                  rintro k (rfl | hk)
                  · exact Nat.le_refl _
                  · exact (hrs.row.lt k hk).1)
                have HC := hid hcase
                have hlen' : rs'.length ≤ 100000000 := by
                  rcases hcase with ⟨_, _, rfl, _⟩ | ⟨_, _, rfl, _⟩ | ⟨_, _, _, L, R, he, _, _, ha⟩
                  · rw [HLN.out]; omega
                  · rw [HLN.out]; omega
                  · have h1 := addTo_length ha
                    have h2 := HLN.out
                    rw [he, List.length_append] at h2
                    omega
                clear hcase hfr hat hrs
                go_wp2_with fail
                refine (runs14 hdr0 wy.heap.size wy.heap.size v' rs' n' w4 hrs4 hlen').mono ?_
                rintro e w5 ⟨g0, g1, rfl, hr0, hr1, hb5⟩
                have hball : Below wy.heap.size wy w5 := (hb3.trans hb4).trans (hb5.mono (Nat.le_trans hb3.size hb4.size))
                have hA := HR0.out.keep hball
                have hB := HR1.out.keep hball
                have HBW : Hid (Below w.heap.size w w5) := hbx.trans (hball.mono hbx.size)
                clear hrs4 hb3 hb4 hb5 hball HR0 HR1 hbx
                have HL' : Hid (rs'.length ≤ 100000000) := hlen'
                generalize hN : rs'.length = N at hr0 hr1 hlen' ⊢
                clear hN
                go_wp2_with fail
                refine (overlaps15 a a' n0 c c' lo hi p q w5 hA hB (by omega)).mono ?_
                rintro e w6 ⟨r2, rfl, hr2, hw⟩
                have hw2 := hw.symm
                subst hw2
                clear hw
                rw [over_iff hA.len hB.len] at hr2
                rcases HC.out with ⟨hqp, rfl, hrs', rfl⟩ | ⟨hpq, rfl, hrs', rfl, i, y, hiy, hy1, hy2⟩ | ⟨hpq, rfl, hn', L, R, he, hL, hR, ha⟩
                · obtain rfl : r2 = false := by
                    cases r2 with
                    | false => rfl
                    | true => obtain ⟨y, _, _, _, h, _⟩ := hr2.1 rfl; omega
                  have e1 : rs'.map (·.1) = lo := by rw [hrs']; exact List.map_fst_zip (by have := hA.len; have := hB.len; omega)
                  have e2 : rs'.map (·.2) = hi := by rw [hrs']; exact List.map_snd_zip (by have := hA.len; have := hB.len; omega)
                  rw [e1] at hr0
                  rw [e2] at hr1
                  clear hr2 hrs' e1 e2 HC
                  go_wp2_with fail
                  refine (equalInts (some ⟨g0, 0, none⟩) a N N n0 c lo lo w5 hr0 hA (by omega)).mono ?_
                  rintro e w7 ⟨rfl, q7, rfl⟩
                  rw [decide_eq_true (rfl : lo = lo)]
                  go_wp2_with fail
                  refine (equalInts (some ⟨g1, 0, none⟩) a' N N n0 c' hi hi _ (hr1.drewN q7) (hB.drewN q7) (by omega)).mono ?_
                  rintro e w8 ⟨rfl, q8, rfl⟩
                  rw [decide_eq_true (rfl : hi = hi)]
                  go_wp2
                  go_ret
                  exact ⟨rfl, below_drewN HBW.out _⟩
                · obtain rfl : r2 = true := hr2.2 ⟨y, List.mem_of_getElem? hiy, hy2, hy1, hpq, HPW.out.2 y (List.mem_of_getElem? hiy)⟩
                  have e1 : rs'.map (·.1) = lo := by rw [hrs']; exact List.map_fst_zip (by have := hA.len; have := hB.len; omega)
                  have e2 : rs'.map (·.2) = hi := by rw [hrs']; exact List.map_snd_zip (by have := hA.len; have := hB.len; omega)
                  rw [e1] at hr0
                  rw [e2] at hr1
                  clear hr2 hrs' e1 e2 HC
                  go_wp2_with fail
                  refine (equalInts (some ⟨g0, 0, none⟩) a N N n0 c lo lo w5 hr0 hA (by omega)).mono ?_
                  rintro e w7 ⟨rfl, q7, rfl⟩
                  rw [decide_eq_true (rfl : lo = lo)]
                  go_wp2_with fail
                  refine (equalInts (some ⟨g1, 0, none⟩) a' N N n0 c' hi hi _ (hr1.drewN q7) (hB.drewN q7) (by omega)).mono ?_
                  rintro e w8 ⟨rfl, q8, rfl⟩
                  rw [decide_eq_true (rfl : hi = hi)]
                  go_wp2
                  go_ret
                  exact ⟨rfl, below_drewN HBW.out _⟩
                · have hno : ¬ ∃ y ∈ lo.zip hi, y.1 < q ∧ p < y.2 ∧ p < q ∧ y.1 < y.2 := by
                    rintro ⟨y, hy, h1, h2, _, h4⟩
                    rw [he] at hy
                    rcases List.mem_append.1 hy with hy | hy
                    · have := hL y hy; omega
                    · have hpR : R.Pairwise (fun r r' => r.2 < r'.1) := by have := HPW.out.1; rw [he] at this; exact (List.pairwise_append.1 this).2.1
                      rcases R with _ | ⟨z, R0⟩
                      · simp at hy
                      · have h5 := hR z R0 rfl
                        rcases List.mem_cons.1 hy with rfl | hy'
                        · omega
                        · have h6 := (List.pairwise_cons.1 hpR).1 y hy'
                          have h7 := HPW.out.2 z (by rw [he]; simp)
                          omega
                  obtain rfl : r2 = false := by
                    cases r2 with
                    | false => rfl
                    | true => exact absurd (hr2.1 rfl) hno
                  have HE := hid he
                  have HLL := hid hL
                  have HRR := hid hR
                  have HAD := hid ha
                  have HN' := hid hn'
                  clear hr2 hno HC he hL hR ha hn'
                  go_wp2_with fail
                  refine (union17 a a' n0 c c' lo hi p q w5 hA hB (by omega)).mono ?_
                  rintro e w7 ⟨i, g2, g3, O, hi1, hi2, hi3, hO, rfl, hO0, hO1, hb7⟩
                  have hpl := uni_place hA.len hB.len HPW.out HE.out hpq HLL.out HRR.out hi1 hi2 hi3
                  rw [hpl.1, hpl.2, mrg_addTo (by rw [← HE.out]; exact HPW.out) hpq HLL.out HRR.out HAD.out] at hO
                  subst hO
                  have HON : Hid (O.length = O.length) := rfl
                  have hr0' := hr0.keep hb7
                  have hr1' := hr1.keep hb7
                  have HBW7 : Hid (Below w.heap.size w w7) := HBW.out.trans (hb7.mono HBW.out.size)
                  have hNO : N = O.length := by have := hr0.len; simpa using this.symm
                  have hOle : O.length ≤ 100000000 := HL'.out
                  generalize O.length = M at hO0 hO1 hNO hOle ⊢
                  clear hi1 hi2 hi3 hpl HON hb7 hr0 hr1 hA hB hNO HAD HE HLL HRR HPW HLN
                  go_wp2_with fail
                  refine (equalInts (some ⟨g0, 0, none⟩) (some ⟨g2, 0, none⟩) N N M (n0 + 1) (O.map (·.1)) (O.map (·.1)) w7 hr0' hO0 (by omega)).mono ?_
                  rintro e w8 ⟨rfl, q8, rfl⟩
                  rw [decide_eq_true (rfl : O.map (·.1) = O.map (·.1))]
                  go_wp2_with fail
                  refine (equalInts (some ⟨g1, 0, none⟩) (some ⟨g3, 0, none⟩) N N M (n0 + 1) (O.map (·.2)) (O.map (·.2)) _ (hr1'.drewN q8) (hO1.drewN q8) (by omega)).mono ?_
                  rintro e w9 ⟨rfl, q9, rfl⟩
                  rw [decide_eq_true (rfl : O.map (·.2) = O.map (·.2))]
                  have hne' : (n' == n + (q - p)) = true := by rw [HN'.out]; simp
                  go_wp2
                  go_ret
                  exact ⟨rfl, below_drewN HBW7.out _⟩
      · go_enter Try.func3, Try.ntmps3
        go_wp2_with fail
        refine (bytes10 a0 a1 n0 c0 n1 c1 n p q w m0 m1).mono ?_
        rintro e w' ⟨r, rfl, hw⟩
        have hw2 := hw.symm
        subst hw2
        clear hw
        cases r with
        | false =>
          go_wp2
          go_ret
          exact ⟨rfl, Below.refl _ _⟩
        | true =>
          by_cases d1 : p < -1152921504606846975
          · go_wp2
            go_ret
            exact ⟨rfl, Below.refl _ _⟩
          · by_cases d2 : 1152921504606846975 < p
            · go_wp2
              go_ret
              exact ⟨rfl, Below.refl _ _⟩
            · by_cases d3 : q < -1152921504606846975
              · go_wp2
                go_ret
                exact ⟨rfl, Below.refl _ _⟩
              · have d4 : 1152921504606846975 < q := by omega
                go_wp2
                go_ret
                exact ⟨rfl, Below.refl _ _⟩
    · go_enter Try.func3, Try.ntmps3
      go_wp2_with fail
      refine (bytes10 a0 a1 n0 c0 n1 c1 n p q w m0 m1).mono ?_
      rintro e w' ⟨r, rfl, hw⟩
      have hw2 := hw.symm
      subst hw2
      clear hw
      cases r with
      | false =>
        go_wp2
        go_ret
        exact ⟨rfl, Below.refl _ _⟩
      | true =>
        go_wp2
        go_ret
        exact ⟨rfl, Below.refl _ _⟩
  · go_enter Try.func3, Try.ntmps3
    go_wp2_with fail
    refine (bytes10 a0 a1 n0 c0 n1 c1 n p q w m0 m1).mono ?_
    rintro e w' ⟨r, rfl, hw⟩
    have hw2 := hw.symm
    subst hw2
    clear hw
    cases r with
    | false =>
      go_wp2
      go_ret
      exact ⟨rfl, Below.refl _ _⟩
    | true =>
      go_wp2
      go_ret
      exact ⟨rfl, Below.refl _ _⟩

end Go.Proofs.Qxb6600404a
