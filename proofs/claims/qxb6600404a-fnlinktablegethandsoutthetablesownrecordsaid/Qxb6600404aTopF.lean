/-
  Seat b6600404a: the walk of FnLinkTableGetHandsOutTheTablesOwnRecord, on a sparse table.
-/
import Derived.Test.Qxb6600404aOwn2
import Derived.Lib.Builder
namespace Go.Proofs.Qxb6600404a
open Go.RowKit
set_option linter.unusedVariables false
set_option linter.unusedSimpArgs false

set_option maxHeartbeats 4000000 in
set_option maxRecDepth 100000 in
theorem topE_sparse (a1 a2 a3 a4 : Option Addr) (n1 c1 n2 c2 n3 c3 n4 c4 : Nat) (ps ts lo hi : List Int) (n j v : Int) (w : World) (h1 : Row .i64 w a1 n1 ps) (h2 : Row .u8 w a2 n2 ts) (h3 : Row .i64 w a3 n3 lo) (h4 : Row .i64 w a4 n4 hi) (m1 : n1 ≤ maxLen) (m2 : n2 ≤ maxLen) (m3 : n3 ≤ maxLen) (m4 : n4 ≤ maxLen) (z1 : a1 = none → n1 = 0 ∧ c1 = 0) (z2 : a2 = none → n2 = 0 ∧ c2 = 0) (z3 : a3 = none → n3 = 0 ∧ c3 = 0) (z4 : a4 = none → n4 = 0 ∧ c4 = 0) (hfit : ∀ x ∈ ps, Fits x) (hj : Fits j) :
    Calls Try.prog 8 #[.bool true, .slice a1 n1 c1, .slice a2 n2 c2, .slice a3 n3 c3, .slice a4 n4 c4, .int .i64 n, .int .i64 j, .int .u8 v] w fun e w' => e = .returned (.bool true) ∧ Below w.heap.size w w' := by
  have M1 := m1
  have M2 := m2
  have M3 := m3
  have M4 := m4
  unfold maxLen at M1 M2 M3 M4
  have Z1 := hid z1
  have Z2 := hid z2
  have Z3 := hid z3
  have Z4 := hid z4
  clear z1 z2 z3 z4
  by_cases l1 : n1 ≤ 4096
  rotate_left
  · go_enter Try.func8, Try.ntmps8
    go_wp2_with fail
    refine (bytes46 true a1 a2 a3 a4 n1 c1 n2 c2 n3 c3 n4 c4 n j v w m1 m2 m3 m4).mono ?_
    rintro e w' ⟨r, rfl, hw⟩
    have hw2 := hw.symm
    subst hw2
    clear hw
    cases r with
    | false =>
      go_wp2
      go_ret
      exact ⟨rfl, Below.refl _ _⟩
    | true =>
      go_wp2
      go_ret
      exact ⟨rfl, Below.refl _ _⟩
  by_cases l2 : n2 ≤ 4096
  rotate_left
  · go_enter Try.func8, Try.ntmps8
    go_wp2_with fail
    refine (bytes46 true a1 a2 a3 a4 n1 c1 n2 c2 n3 c3 n4 c4 n j v w m1 m2 m3 m4).mono ?_
    rintro e w' ⟨r, rfl, hw⟩
    have hw2 := hw.symm
    subst hw2
    clear hw
    cases r with
    | false =>
      go_wp2
      go_ret
      exact ⟨rfl, Below.refl _ _⟩
    | true =>
      go_wp2
      go_ret
      exact ⟨rfl, Below.refl _ _⟩
  by_cases l3 : n3 ≤ 32768
  rotate_left
  · go_enter Try.func8, Try.ntmps8
    go_wp2_with fail
    refine (bytes46 true a1 a2 a3 a4 n1 c1 n2 c2 n3 c3 n4 c4 n j v w m1 m2 m3 m4).mono ?_
    rintro e w' ⟨r, rfl, hw⟩
    have hw2 := hw.symm
    subst hw2
    clear hw
    cases r with
    | false =>
      go_wp2
      go_ret
      exact ⟨rfl, Below.refl _ _⟩
    | true =>
      go_wp2
      go_ret
      exact ⟨rfl, Below.refl _ _⟩
  by_cases l4 : n4 ≤ 32768
  rotate_left
  · go_enter Try.func8, Try.ntmps8
    go_wp2_with fail
    refine (bytes46 true a1 a2 a3 a4 n1 c1 n2 c2 n3 c3 n4 c4 n j v w m1 m2 m3 m4).mono ?_
    rintro e w' ⟨r, rfl, hw⟩
    have hw2 := hw.symm
    subst hw2
    clear hw
    cases r with
    | false =>
      go_wp2
      go_ret
      exact ⟨rfl, Below.refl _ _⟩
    | true =>
      go_wp2
      go_ret
      exact ⟨rfl, Below.refl _ _⟩
  have hne34 := fun (w : World) (a : Option Addr) (n c : Nat) => run_neq_slice_nil_any (P := Try.prog) w 34 5 a n c 0 0 Try.underlying34
  have hne22 := fun (w : World) (a : Option Addr) (n c : Nat) => run_neq_slice_nil_any (P := Try.prog) w 22 3 a n c 0 0 Try.underlying22
  obtain ⟨i5, hi5, hz50, hz51, hz52⟩ := info_parts info5
  obtain ⟨i3, hi3, hz30, hz31, hz32⟩ := info_parts info3
  obtain ⟨i83, hi83, _⟩ := info_parts info83
  have hpn := fun (w : World) (a : Addr) => Go.Lib.run_neq_ptr_same (P := Try.prog) w a Try.underlying40 hi83
  clear hi83
  have H1 := hid h1
  have H2 := hid h2
  have H3 := hid h3
  have H4 := hid h4
  clear h1 h2 h3 h4
  go_enter Try.func8, Try.ntmps8
  go_wp2_with fail
  refine (bytes46 true a1 a2 a3 a4 n1 c1 n2 c2 n3 c3 n4 c4 n j v w m1 m2 m3 m4).mono ?_
  rintro e w' ⟨r, rfl, hw⟩
  have hw2 := hw.symm
  subst hw2
  clear hw
  cases r with
  | false =>
    go_wp2
    go_ret
    exact ⟨rfl, Below.refl _ _⟩
  | true =>
    go_upto_if 58 with (fail)
    go_cut [2] from 29 (fun s wx => ∃ a c, s = .slice a n2 c ∧ Hid (Row .u8 wx a n2 ts) ∧ Below w.heap.size w wx)
    case first =>
      cases a2 with
      | none =>
        obtain ⟨rfl, rfl⟩ := Z2.out rfl
        go_wp2
        go_meet
        case rel => exact ⟨none, 0, rfl, H2.out, Below.refl _ _⟩
      | some x =>
        go_wp2_with (at_make; refine wpList_make_full _ rfl _ _ 34 rfl w.heap.size 5 i5 (.int .u8 0) 1 Try.underlying34 hi5 hz50 hz51 _ _ _ _ n2 rfl rfl rfl rfl (by rw [hz52]; omega) (by unfold maxLen; omega) (Nat.le_refl _) ?_)
        intro w1 hown1 hgrow1
        have hb1 : Below w.heap.size w w1 := (Below.refl _ _).grown hgrow1 (Nat.le_refl _) (by simp)
        have k1 := made_ints hown1
        obtain ⟨w2, hr2, hb2, hf2⟩ := run_copy_blk (P := Try.prog) w1 34 34 3 5 i5 1 Try.underlying34 hi5 hz51 (some ⟨w.heap.size, 0, none⟩) (some x) n2 n2 n2 c2 w.heap.size 0 _ 5 k1 (ints .u8 ts) (by rw [ints_length, H2.out.len]; show _ = min _ _ * 1; omega) (fun h => ⟨rfl, (H2.out.keep hb1).cells (by rw [ints_length, H2.out.len] at h; exact h)⟩) (by omega) (by rw [ints_length, H2.out.len, List.length_replicate]; omega) (ints_one _ _)
        clear hown1 hgrow1
        go_wp2
        go_meet
        case rel =>
          rw [splice_all (by rw [ints_length, H2.out.len, List.length_replicate])] at hb2
          exact ⟨some ⟨w.heap.size, 0, none⟩, n2, rfl, Row.of_blk (rest := []) (by rw [List.append_nil]; exact hb2) H2.out.len, hb1.trans (hf2.below hb1.size (by intro k hk; omega))⟩
    case rest =>
      obtain ⟨b2, d2, rfl, HR2, hb2⟩ := hcut
      obtain ⟨wa, hwa⟩ : ∃ wy : World, wy = wc := ⟨_, rfl⟩
      rw [← hwa] at HR2 hb2 ⊢
      clear hwa
      have HB2 := hid hb2
      clear hb2
      have H3a := hid (H3.out.keep HB2.out)
      go_upto_if 67 with (fail)
      go_cut [3] from 29 (fun s wx => ∃ a c, s = .slice a n3 c ∧ Hid (Row .i64 wx a n3 lo) ∧ Below wa.heap.size wa wx)
      case first =>
        cases a3 with
        | none =>
          obtain ⟨rfl, rfl⟩ := Z3.out rfl
          go_wp2
          go_meet
          case rel => exact ⟨none, 0, rfl, H3a.out, Below.refl _ _⟩
        | some x =>
          go_wp2_with (at_make; refine wpList_make_full _ rfl _ _ 22 rfl wa.heap.size 3 i3 (.int .i64 0) 1 Try.underlying22 hi3 hz30 hz31 _ _ _ _ n3 rfl rfl rfl rfl (by rw [hz32]; omega) (by unfold maxLen; omega) (Nat.le_refl _) ?_)
          intro w1 hown1 hgrow1
          have hb1 : Below wa.heap.size wa w1 := (Below.refl _ _).grown hgrow1 (Nat.le_refl _) (by simp)
          have k1 := made_ints hown1
          obtain ⟨w2, hr2, hb2, hf2⟩ := run_copy_blk (P := Try.prog) w1 22 22 3 3 i3 1 Try.underlying22 hi3 hz31 (some ⟨wa.heap.size, 0, none⟩) (some x) n3 n3 n3 c3 wa.heap.size 0 _ 3 k1 (ints .i64 lo) (by rw [ints_length, H3a.out.len]; show _ = min _ _ * 1; omega) (fun h => ⟨rfl, (H3a.out.keep hb1).cells (by rw [ints_length, H3a.out.len] at h; exact h)⟩) (by omega) (by rw [ints_length, H3a.out.len, List.length_replicate]; omega) (ints_one _ _)
          clear hown1 hgrow1
          go_wp2
          go_meet
          case rel =>
            rw [splice_all (by rw [ints_length, H3a.out.len, List.length_replicate])] at hb2
            exact ⟨some ⟨wa.heap.size, 0, none⟩, n3, rfl, Row.of_blk (rest := []) (by rw [List.append_nil]; exact hb2) H3a.out.len, hb1.trans (hf2.below hb1.size (by intro k hk; omega))⟩
      case rest =>
        obtain ⟨b3, d3, rfl, HR3, hb3⟩ := hcut
        obtain ⟨wb, hwb⟩ : ∃ wy : World, wy = wc := ⟨_, rfl⟩
        rw [← hwb] at HR3 hb3 ⊢
        clear hwb
        have HB3 := hid hb3
        clear hb3
        have H4b := hid ((H4.out.keep HB2.out).keep HB3.out)
        go_upto_if 76 with (fail)
        go_cut [4] from 29 (fun s wx => ∃ a c, s = .slice a n4 c ∧ Hid (Row .i64 wx a n4 hi) ∧ Below wb.heap.size wb wx)
        case first =>
          cases a4 with
          | none =>
            obtain ⟨rfl, rfl⟩ := Z4.out rfl
            go_wp2
            go_meet
            case rel => exact ⟨none, 0, rfl, H4b.out, Below.refl _ _⟩
          | some x =>
            go_wp2_with (at_make; refine wpList_make_full _ rfl _ _ 22 rfl wb.heap.size 3 i3 (.int .i64 0) 1 Try.underlying22 hi3 hz30 hz31 _ _ _ _ n4 rfl rfl rfl rfl (by rw [hz32]; omega) (by unfold maxLen; omega) (Nat.le_refl _) ?_)
            intro w1 hown1 hgrow1
            have hb1 : Below wb.heap.size wb w1 := (Below.refl _ _).grown hgrow1 (Nat.le_refl _) (by simp)
            have k1 := made_ints hown1
            obtain ⟨w2, hr2, hb2, hf2⟩ := run_copy_blk (P := Try.prog) w1 22 22 3 3 i3 1 Try.underlying22 hi3 hz31 (some ⟨wb.heap.size, 0, none⟩) (some x) n4 n4 n4 c4 wb.heap.size 0 _ 3 k1 (ints .i64 hi) (by rw [ints_length, H4b.out.len]; show _ = min _ _ * 1; omega) (fun h => ⟨rfl, (H4b.out.keep hb1).cells (by rw [ints_length, H4b.out.len] at h; exact h)⟩) (by omega) (by rw [ints_length, H4b.out.len, List.length_replicate]; omega) (ints_one _ _)
            clear hown1 hgrow1
            go_wp2
            go_meet
            case rel =>
              rw [splice_all (by rw [ints_length, H4b.out.len, List.length_replicate])] at hb2
              exact ⟨some ⟨wb.heap.size, 0, none⟩, n4, rfl, Row.of_blk (rest := []) (by rw [List.append_nil]; exact hb2) H4b.out.len, hb1.trans (hf2.below hb1.size (by intro k hk; omega))⟩
        case rest =>
          obtain ⟨b4, d4, rfl, HR4, hb4⟩ := hcut
          obtain ⟨wz, hwz⟩ : ∃ wy : World, wy = wc := ⟨_, rfl⟩
          rw [← hwz] at HR4 hb4 ⊢
          clear hwz
          have HB4 := hid hb4
          clear hb4
          have HBZ : Hid (Below w.heap.size w wz) := HB2.out.trans ((HB3.out.trans (HB4.out.mono HB3.out.size)).mono HB2.out.size)
          have R1 := hid (H1.out.keep HBZ.out)
          have R2 := hid ((HR2.out.keep HB3.out).keep HB4.out)
          have R3 := hid (HR3.out.keep HB4.out)
          have R4 := HR4
          have HLP := hid H1.out.len
          have HLT := hid H2.out.len
          clear hi3 hz30 hz31 hz32 hi5 hz50 hz51 hz52 hne34 hne22 HR2 HR3 HR4 HB2 HB3 HB4 H1 H2 H3 H4 H3a H4b Z2 Z3 Z4 M1 M2 M3 M4 m1 m2 m3 m4
          go_wp2_with fail
          refine (sparseOK36 a1 b2 b3 b4 n1 c1 n2 d2 n3 d3 n4 d4 ps lo hi n wz R1.out R3.out R4.out (by omega) (by omega) (by omega) (by omega)).mono ?_
          rintro e _ ⟨r, rfl, hr, q1, rfl⟩
          cases r with
          | false =>
            go_wp2
            go_ret
            exact ⟨rfl, below_drewN HBZ.out _⟩
          | true =>
            obtain ⟨rfl, rfl, hcan, hn0, hn1, hd⟩ := hr rfl
            have HCAN := hid hcan
            have HD := hid hd
            clear hr hcan hd
            go_wp2_with fail
            refine (linear41 b3 b4 n3 d3 d4 lo hi j _ (R3.out.drewN q1) (R4.out.drewN q1) (by omega)).mono ?_
            rintro e _ ⟨r, rfl, hr, q2, rfl⟩
            cases r with
            | false =>
              go_wp2
              go_ret
              exact ⟨rfl, below_drewN HBZ.out _⟩
            | true =>
              have HIN := hid (hr rfl)
              clear hr
              obtain ⟨wq, hwq⟩ : ∃ wq : World, wq = (wz.drewN q1).drewN q2 := ⟨_, rfl⟩
              have HBQ : Hid (Below wz.heap.size wz wq) := by rw [hwq]; exact below_drewN (Below.of_drewN wz _ _) _
              rw [← hwq]
              clear hwq
              go_wp2_with fail
              refine (clone21 a1 n1 c1 ps _ (R1.out.keep HBQ.out) (by omega) Z1.out).mono ?_
              rintro e w2 ⟨pv, rfl, hown, hb2, _⟩
              obtain ⟨ap, cp, rfl, hrow2, _, _⟩ := row_owned hown
              have HB22 : Hid (Below wz.heap.size wz w2) := HBQ.out.trans (hb2.mono HBQ.out.size)
              clear hown hrow2 hb2 HBQ
              go_wp2_with fail
              refine (dense20 ap ps.length cp b2 n1 d2 ts w2 (R2.out.keep HB22.out) (by omega)).mono ?_
              rintro e w3 ⟨rfl, ⟨kv, hdr, hkept⟩, hb3⟩
              have HB3 : Hid (Below wz.heap.size wz w3) := HB22.out.trans (hb3.mono HB22.out.size)
              generalize w2.heap.size = tt
              clear hdr hkept hb3 HB22
              go_wp2_with fail
              refine (clone21 a1 n1 c1 ps _ (R1.out.keep HB3.out) (by omega) Z1.out).mono ?_
              rintro e wp ⟨pv, rfl, hown, hbp, hcap⟩
              obtain ⟨ap, cp, rfl, hrow2, _, _⟩ := row_owned hown
              obtain rfl : ps.length = cp := hcap _ _ _ rfl
              rw [HLP.out] at hown hrow2 ⊢
              have HBP : Hid (Below wz.heap.size wz wp) := HB3.out.trans (hbp.mono HB3.out.size)
              have HOWN := hid (ownsRow_low hown HB3.out.size)
              have HROW := hid hrow2
              clear hown hrow2 hbp hcap
              go_wp2_with fail
              refine (sparse37 ap n1 n1 b2 b3 b4 d2 n3 d3 d4 ps ts lo hi n wp HROW.out (R2.out.keep HBP.out) (R3.out.keep HBP.out) (R4.out.keep HBP.out) (by omega) (by omega) hfit).mono ?_
              rintro e w4 ⟨rfl, ⟨kv, mb, uv, hdr, hkept, hkc, him, hmb, huv⟩, hb4⟩
              have HB4 : Hid (Below wz.heap.size wz w4) := HBP.out.trans (hb4.mono HBP.out.size)
              have GD : Hid (C1 wp.heap.size j v wz.heap.size w4) := by
                obtain ⟨b, hkv⟩ : ∃ b, kv = .slice b n1 n1 := by
                  rcases ownsRow_form hkept with ⟨rfl, h0, _⟩ | ⟨g, cap, rest, rfl, _⟩
                  · rw [HLT.out] at h0; exact ⟨none, by rw [h0]⟩
                  · obtain rfl : ts.length = cap := hkc _ _ _ rfl
                    exact ⟨_, by rw [HLT.out]⟩
                subst hkv
                have hrl : (lo.zip hi).length ≤ 1000000 := by rw [List.length_zip]; have := R3.out.len; omega
                refine good_sparse wz.heap.size wp.heap.size ap b n1 mb uv n ps ts (lo.zip hi) j v w4 ⟨⟨hdr, HBP.out.size, ?_, ownsRow_low hkept HBP.out.size⟩, ownsRow_low huv HBP.out.size, him, Nat.le_trans HBP.out.size hmb⟩ HLP.out HLT.out (by omega) HD.out hfit HIN.out (canon_pw R3.out.len R4.out.len HCAN.out) (canon_bd R3.out.len R4.out.len HCAN.out) hrl hn0 (by omega) hj HB4.out.size
                rw [HLP.out]
                exact ownsRow_keep HOWN.out hb4
              generalize wp.heap.size = t at GD ⊢
              clear hdr hkept hkc him hmb huv hb4 HOWN HROW HBP HB3
              go_wp2_with fail
              refine (GD.out).mono ?_
              rintro e w5 ⟨l, b, rfl, g, o, y, rfl, rfl, hb5, hBg, hc5, hf5, hget6, hc6, htk6⟩
              have HG6 := hid hget6
              have HT6 := hid htk6
              have HB5 : Hid (Below wz.heap.size wz w5) := HB4.out.trans hb5
              clear hget6 htk6 hb5
              go_wp2_with fail
              refine (setSeq27 g o v y w5 hc5 hf5).mono ?_
              rintro e w6 ⟨rfl, hw6⟩
              rw [← hw6] at HG6 HT6 hc6
              have HB6 : Hid (Below wz.heap.size wz w6) := by rw [hw6]; exact HB5.out.setCell hBg _
              clear hw6 hc5 hf5 HB5 hBg
              go_wp2_with fail
              refine HG6.out.mono ?_
              rintro e w7 ⟨l, b, rfl, rfl, rfl, hw⟩
              have hw2 := hw.symm
              subst hw2
              clear hw HG6
              go_wp2_with fail
              refine (seq30 g o v _ hc6).mono ?_
              rintro e w8 ⟨rfl, hw⟩
              have hw2 := hw.symm
              subst hw2
              clear hw hc6
              go_wp2_with fail
              refine HT6.out.mono ?_
              rintro e w9 ⟨x, b, w3, rfl, hw9, rfl, rfl, hb3, hlast⟩
              have hb9 : Below w3.heap.size w3 w9 := by rw [hw9]; exact (Below.refl _ _).alloc (Nat.le_refl _) _
              have hc9 : w9.cell? ⟨w3.heap.size, 0 + 13, none⟩ = some (.int .u8 x) := by rw [hw9]; exact (Blk.new w3 (linkC x) 83).cell rfl
              have HL := hid (hlast w9 hb9)
              have HB9 : Hid (Below wz.heap.size wz w9) := (HB6.out.trans hb3).trans (hb9.mono (Nat.le_trans HB6.out.size hb3.size))
              clear hw9 hb9 hlast hb3 HT6 HB6
              go_wp2_with fail
              refine (seq30 w3.heap.size 0 x w9 hc9).mono ?_
              rintro e w10 ⟨rfl, hw⟩
              have hw2 := hw.symm
              subst hw2
              clear hw hc9
              go_wp2_with fail
              refine HL.out.mono ?_
              rintro e w11 ⟨l, b, rfl, rfl, rfl, hb11⟩
              go_wp2
              go_ret
              exact ⟨rfl, HBZ.out.trans ((HB9.out.trans hb11).mono HBZ.out.size)⟩

end Go.Proofs.Qxb6600404a
