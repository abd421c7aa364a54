/-
  Seat b6600404a: the walk of FnLinkTableDenseTakeDownDeletesJustThatLink.
-/
import Derived.Test.Qxb6600404aTake2
namespace Go.Proofs.Qxb6600404a
open Go.RowKit
set_option linter.unusedVariables false
set_option linter.unusedSimpArgs false

/-- What takeDown leaves of a dense table, in one form. -/
def Left (B t : Nat) (uv un av : Value) (ps ts : List Int) (j : Int) (w : World) (x : Int) (b : Bool) (w' : World) : Prop :=
  ∃ (ps' ts' : List Int) (pv' kv' : Value), LT w' B t pv' kv' (.map none) uv un av ps' ts' ∧ Below B w w' ∧ ps'.length = ts'.length ∧ ps'.length ≤ ps.length ∧
    ((b = true ∧ ∃ k, ps[k]? = some j ∧ ts[k]? = some x ∧ ps' = wo k ps ∧ ts' = wo k ts) ∨ (b = false ∧ x = 0 ∧ (∀ k : Nat, ps[k]? ≠ some j) ∧ ps' = ps ∧ ts' = ts))

theorem takeDown32_dense (B t : Nat) (pv kv uv un av : Value) (ps ts : List Int) (j : Int) (w : World) (h : LT w B t pv kv (.map none) uv un av ps ts) (hl : ps.length = ts.length) (hn : ps.length ≤ 100000000) (hs : SAscTo ps ps.length) (hBw : B ≤ w.heap.size) :
    Calls Try.prog 32 #[.pointer (some ⟨t, 0, none⟩), .int .i64 j] w (TookP (Left B t uv un av ps ts j w)) := by
  refine takeDown32 t j w _ ((takeDown52_dense B t pv kv uv un av ps ts j w h hl hn hs hBw).mono ?_)
  rintro e w' (⟨k, x, pv', kv', hk, hx, rfl, hlt, hb⟩ | ⟨rfl, hno, hb⟩)
  · have h1 := (List.getElem?_eq_some_iff.1 hk).1
    refine ⟨x, true, rfl, wo k ps, wo k ts, pv', kv', hlt, hb, ?_, wo_le _ _, .inl ⟨rfl, k, hk, hx, rfl, rfl⟩⟩
    rw [wo_length h1, wo_length (by omega), hl]
  · exact ⟨0, false, rfl, ps, ts, pv, kv, h.keep hb, hb.mono hBw, hl, Nat.le_refl _, .inr ⟨rfl, rfl, hno, rfl, rfl⟩⟩

set_option maxHeartbeats 4000000 in
set_option maxRecDepth 100000 in
theorem topD (a0 a1 : Option Addr) (n0 c0 n1 c1 : Nat) (ps ts : List Int) (j : Int) (w : World) (h0 : Row .i64 w a0 n0 ps) (h1 : Row .u8 w a1 n1 ts) (m0 : n0 ≤ maxLen) (m1 : n1 ≤ maxLen) (z0 : a0 = none → n0 = 0 ∧ c0 = 0) (z1 : a1 = none → n1 = 0 ∧ c1 = 0) :
    Calls Try.prog 5 #[.slice a0 n0 c0, .slice a1 n1 c1, .int .i64 j] w fun e w' => e = .returned (.bool true) ∧ Below w.heap.size w w' := by
  have M0 := m0
  have M1 := m1
  unfold maxLen at M0 M1
  have Z0 := hid z0
  have Z1 := hid z1
  clear z0 z1
  by_cases hl0 : n0 ≤ 65536
  · by_cases hl1 : n1 ≤ 65536
    · have hne := fun (w : World) (a : Option Addr) (n c : Nat) => run_neq_slice_nil_any (P := Try.prog) w 34 5 a n c 0 0 Try.underlying34
      obtain ⟨i0, hi0, hz0, hz1, hz2⟩ := info_parts info5
      go_enter Try.func5, Try.ntmps5
      go_wp2_with fail
      refine (bytes31 a0 a1 n0 c0 n1 c1 j w m0 m1).mono ?_
      rintro e w' ⟨r, rfl, hw⟩
      have hw2 := hw.symm
      subst hw2
      clear hw
      cases r with
      | false =>
        go_wp2
        go_ret
        exact ⟨rfl, Below.refl _ _⟩
      | true =>
        go_wp2_with fail
        refine (denseOK19 a0 a1 n0 c0 n1 c1 ps _ h0 (by omega) (by omega)).mono ?_
        rintro e _ ⟨r, rfl, hr, q1, rfl⟩
        cases r with
        | false =>
          go_wp2
          go_ret
          exact ⟨rfl, Below.of_drewN _ _ _⟩
        | true =>
          obtain ⟨rfl, hs⟩ := hr rfl
          clear hr
          have H0 := hid h0
          have H1 := hid h1
          have HS := hid hs
          clear h0 h1 hs
          go_upto_if 34 with (fail)
          go_cut [1] from 16 (fun s1 wx => ∃ a c, s1 = .slice a n0 c ∧ Hid (Row .u8 wx a n0 ts) ∧ Below w.heap.size w wx)
          case first =>
            cases a1 with
            | none =>
              obtain ⟨rfl, rfl⟩ := Z1.out rfl
              go_wp2
              go_meet
              case rel => exact ⟨none, 0, rfl, H1.out.drewN _, Below.of_drewN _ _ _⟩
            | some x1 =>
              go_wp2_with (at_make; refine wpList_make_full _ rfl _ _ 34 rfl w.heap.size 5 i0 (.int .u8 0) 1 Try.underlying34 hi0 hz0 hz1 _ _ _ _ n0 rfl rfl rfl rfl (by rw [hz2]; omega) (by unfold maxLen; omega) (Nat.le_refl _) ?_)
              intro w1 hown1 hgrow1
              have hb1 : Below w.heap.size w w1 := (Below.of_drewN w q1 _).grown hgrow1 (Nat.le_refl _) (by simp)
              have k1 := made_ints hown1
              obtain ⟨w2, hr2, hb2, hf2⟩ := run_copy_blk (P := Try.prog) w1 34 34 3 5 i0 1 Try.underlying34 hi0 hz1 (some ⟨w.heap.size, 0, none⟩) (some x1) n0 n0 n0 c1 w.heap.size 0 _ 5 k1 (ints .u8 ts) (by rw [ints_length, H1.out.len]; show _ = min _ _ * 1; omega) (fun h => ⟨rfl, (H1.out.keep hb1).cells (by rw [ints_length, H1.out.len] at h; exact h)⟩) (by omega) (by rw [ints_length, H1.out.len, List.length_replicate]; omega) (ints_one _ _)
              clear hown1 hgrow1
              go_wp2
              go_meet
              case rel =>
                rw [splice_all (by rw [ints_length, H1.out.len, List.length_replicate])] at hb2
                exact ⟨some ⟨w.heap.size, 0, none⟩, n0, rfl, Row.of_blk (rest := []) (by rw [List.append_nil]; exact hb2) H1.out.len, hb1.trans (hf2.below hb1.size (by intro k hk; omega))⟩
          case rest =>
            obtain ⟨a, c, rfl, HR1, hbx⟩ := hcut
            obtain ⟨wy, hwy⟩ : ∃ wy : World, wy = wc := ⟨_, rfl⟩
            rw [← hwy] at HR1 hbx ⊢
            clear hwy
            have HR0 := hid (H0.out.keep hbx)
            have HLP := hid H0.out.len
            have HLT := hid H1.out.len
            have HBX := hid hbx
            clear hi0 hz0 hz1 hz2 hne H0 H1 Z1 m0 m1 M0 M1 hbx
            go_wp2_with fail
            refine (clone21 a0 n0 c0 ps wy HR0.out (by omega) Z0.out).mono ?_
            rintro e w2 ⟨v, rfl, hown, hb2, _⟩
            obtain ⟨ap, cp, rfl, hrow2, _, _⟩ := row_owned hown
            go_wp2_with fail
            refine (dense20 ap ps.length cp a n0 c ts w2 (HR1.out.keep hb2) (by omega)).mono ?_
            rintro e w3 ⟨rfl, ⟨kv, hdr, hkept⟩, hb3⟩
            have hlt : LT w3 wy.heap.size w2.heap.size (.slice ap ps.length cp) kv (.map none) (.slice none 0 0) (.int .i64 0) (.map none) ps ts := ⟨hdr, hb2.size, ownsRow_keep hown hb3, ownsRow_low hkept hb2.size⟩
            have HB3 : Hid (Below wy.heap.size wy w3) := hb2.trans (hb3.mono hb2.size)
            clear hdr hkept hown hrow2 hb2 hb3
            generalize Value.slice ap ps.length cp = pv at hlt
            generalize w2.heap.size = t at hlt ⊢
            go_wp2_with fail
            refine (takeDown32_dense wy.heap.size t pv kv _ _ _ ps ts j w3 hlt (by rw [HLP.out, HLT.out]) (by rw [HLP.out]; omega) (by rw [HLP.out]; exact HS.out) HB3.out.size).mono ?_
            rintro e w4 ⟨x, ok, wm, rfl, hw4, ps', ts', pv', kv', hltm, hbm, hlen, hlen', hcase⟩
            have HCASE := hid hcase
            have hb4 : Below wm.heap.size wm w4 := by rw [hw4]; exact (Below.refl _ _).alloc (Nat.le_refl _) _
            have hlt4 := hltm.keep hb4
            have BL : Hid (Blk w4 wm.heap.size (linkC x) 83) := by rw [hw4]; exact Blk.new wm (linkC x) 83
            have HB4 : Hid (Below wy.heap.size wy w4) := (HB3.out.trans hbm).trans (hb4.mono (Nat.le_trans HB3.out.size hbm.size))
            generalize hM : ts'.length = M at hlen
            have HMT := hid hM
            have hMn : M ≤ n0 := by rw [← hlen]; rw [HLP.out] at hlen'; exact hlen'
            have HMP := hid hlen
            have hLB : wy.heap.size ≤ wm.heap.size := Nat.le_trans HB3.out.size hbm.size
            generalize wm.heap.size = LB at BL hLB ⊢
            clear hcase hw4 hb4 hltm hbm hlen hlen' hM hlt HB3
            go_wp2_with fail
            refine (peers23_of wy.heap.size t pv' kv' _ _ _ _ ps' ts' w4 hlt4 (by rw [HMP.out]; omega)).mono ?_
            rintro e w4b ⟨g4, rfl, hg4, hk4, hb4b⟩
            have hlt4b := hlt4.keep hb4b
            go_wp2_with fail
            refine (tags24_of wy.heap.size t pv' kv' _ _ _ _ ps' ts' w4b hlt4b (by rw [HMT.out]; omega)).mono ?_
            rintro e w5 ⟨g5, rfl, hg5, hk5, hb5⟩
            have hlt5 := hid (hlt4b.keep hb5)
            have HB5 : Hid (Below wy.heap.size wy w5) := (HB4.out.trans (hb4b.mono HB4.out.size)).trans (hb5.mono (Nat.le_trans HB4.out.size hb4b.size))
            have K4 := hid (hk4.keep hb5)
            have K5 := hid hk5
            have BL5 := hid ((BL.out.keep hb4b).keep hb5)
            have hL4 : LB < g4 := Nat.lt_of_lt_of_le BL.out.lt hg4
            have hL5 : LB < g5 := Nat.lt_of_lt_of_le (BL.out.keep hb4b).lt hg5
            have HRP := hid (HR0.out.keep HB5.out)
            have HRT := hid (HR1.out.keep HB5.out)
            have hgt4 := K4.out.lt
            have hgt5 := K5.out.lt
            rw [HMP.out, HMT.out]
            clear hk4 hk5 hb4b hb5 hlt4 hlt4b HB4 BL hg4 hg5
            go_wp2
            go_loopw [13, 14] (fun i c' wr => ∃ k : Nat, k ≤ M ∧ i = .int .i64 k ∧ Below w5.heap.size w5 wr) (fun i _ _ => M - (intOf i).toNat)
            case atStart => exact ⟨0, Nat.zero_le _, rfl, Below.refl _ _⟩
            case round =>
              obtain ⟨k, hk, rfl, hb⟩ := hrel
              by_cases hlt : k < M
              · have hL := hlt5.out.keep hb
                obtain ⟨g, cap, rest, rfl, hg, hnc, hcm, hl2, hblk⟩ := hL.keptAt (k := k) (by rw [HMT.out]; exact hlt)
                have hx := hid (List.getElem?_eq_getElem (l := ts') (i := k) (by rw [HMT.out]; exact hlt))
                have hhdr := hL.hdr
                rw [HMT.out] at hhdr
                generalize ts'[k]'(by rw [HMT.out]; exact hlt) = x at hx
                clear hL hnc hcm hl2 hg
                go_wp2_with fail
                refine (copy26 t g M cap k _ _ _ _ _ ts' rest x wr hhdr hblk hx hlt (by omega)).mono ?_
                rintro e w8 ⟨rfl, hw8⟩
                have b8 : Blk w8 wr.heap.size (linkC x) 83 := by rw [hw8]; exact Blk.new wr (linkC x) 83
                have hb8 : Below w5.heap.size w5 w8 := by rw [hw8]; exact hb.alloc hb.size _
                have hge : w5.heap.size ≤ wr.heap.size := hb.size
                clear hw8 hblk hhdr hb
                go_wp2_with fail
                refine (setSeq27 wr.heap.size 0 0 (.int .u8 x) w8 (by rw [Nat.zero_add]; exact b8.cell rfl) (by rw [Nat.zero_add]; exact b8.free 13)).mono ?_
                rintro e w9 ⟨rfl, hw9⟩
                have b9 : Blk w9 wr.heap.size (linkC 0) 83 := by rw [hw9, Nat.zero_add]; exact b8.set 13 _
                have hb9 : Below w5.heap.size w5 w9 := by rw [hw9]; exact hb8.setCell hge _
                clear hw9 b8 hb8
                go_wp2_with fail
                refine (isZero28 wr.heap.size w9 b9).mono ?_
                rintro e w10 ⟨rfl, q10, hw10⟩
                have hb10 : Below w5.heap.size w5 w10 := by rw [hw10]; exact below_drewN (hb9.alloc hb9.size _) _
                clear hw10 b9 hb9
                go_wp2
                go_roundw
                case rel => exact ⟨k + 1, by omega, by go_num, hb10⟩
                case measure => simp [intOf]; omega
              · obtain rfl : k = M := by omega
                have rp := HRP.out.keep hb
                have HBY : Hid (Below wy.heap.size wy wr) := HB5.out.trans (hb.mono HB5.out.size)
                have B4 := hid (K4.out.keep hb)
                have B5 := hid (K5.out.keep hb)
                have BLr := hid (BL5.out.keep hb)
                have HRPr := hid rp
                have HRTr := hid (HRT.out.keep hb)
                go_wp2_with fail
                refine (indexOf29 a0 n0 c0 ps j wr rp (by omega)).mono ?_
                rintro e w8 ⟨hw, hidx⟩
                have hw2 := hw.symm
                subst hw2
                clear hw rp hb
                rcases hidx with ⟨i, rfl, hi⟩ | ⟨rfl, hno⟩
                · rcases HCASE.out with ⟨rfl, k', hk', hx', hps, hts⟩ | ⟨_, _, hn, _⟩
                  · obtain rfl : i = k' := sasc_inj HS.out HLP.out hi hk'
                    have hil : i < n0 := by have := (List.getElem?_eq_some_iff.1 hi).1; rw [HLP.out] at this; exact this
                    obtain ⟨b, off, y, rfl, ex, HY⟩ := HRTr.out.at i hil
                    obtain rfl : y = x := by have := HY.out.symm.trans hx'; simpa using this
                    have hc : wr.cell? ⟨LB, 0 + 13, none⟩ = some (.int .u8 y) := BLr.out.cell rfl
                    subst hps
                    subst hts
                    clear hi hk' hx' HCASE hlt5
                    go_wp2
                    go_quiet (exact seq30q LB 0 y wr hc _)
                    go_wp2_with fail
                    refine (setSeq27 LB 0 0 (.int .u8 y) _ (by exact hc) (by exact BLr.out.free 13)).mono ?_
                    rintro e w9 ⟨rfl, hw9⟩
                    have b9 : Blk w9 LB (linkC 0) 83 := by rw [hw9, Nat.zero_add]; exact (BLr.out.drewN _).set 13 _
                    have b94 : Blk w9 g4 (ints .i64 (wo i ps)) 3 := by rw [hw9]; exact (B4.out.drewN _).other _ (by show _ ≠ LB; omega)
                    have b95 : Blk w9 g5 (ints .u8 (wo i ts)) 5 := by rw [hw9]; exact (B5.out.drewN _).other _ (by show _ ≠ LB; omega)
                    have hb9 : Below wy.heap.size wy w9 := by rw [hw9]; exact (below_drewN HBY.out _).setCell hLB _
                    clear hw9 ex hc
                    go_wp2_with fail
                    refine (isZero28 LB w9 b9).mono ?_
                    rintro e w10 ⟨rfl, q10, hw10⟩
                    have b104 : Blk w10 g4 (ints .i64 (wo i ps)) 3 := by rw [hw10]; exact (b94.alloc _).drewN _
                    have b105 : Blk w10 g5 (ints .u8 (wo i ts)) 5 := by rw [hw10]; exact (b95.alloc _).drewN _
                    have hb10 : Below wy.heap.size wy w10 := by rw [hw10]; exact below_drewN (hb9.alloc hb9.size _) _
                    have r10 := HR0.out.keep hb10
                    clear hw10 b9 b94 b95 hb9
                    go_wp2_with fail
                    refine (without33 a0 n0 c0 i ps w10 r10 (by omega) hil).mono ?_
                    rintro e w11 ⟨v, rfl, hown, hb11⟩
                    obtain ⟨av', cv, rfl, hrow, _, _⟩ := row_owned hown
                    have r114 : Row .i64 w11 (some ⟨g4, 0, none⟩) k (wo i ps) := Row.of_blk (rest := []) (by rw [List.append_nil]; exact b104.keep hb11) HMP.out
                    have b115 := b105.keep hb11
                    have hbw11 : Below wy.heap.size wy w11 := hb10.trans (hb11.mono hb10.size)
                    have r11 := HR1.out.keep hbw11
                    generalize (wo i ps).length = L1 at hrow ⊢
                    clear hown b104 b105 r10
                    go_wp2_with fail
                    refine (equalInts (some ⟨g4, 0, none⟩) av' k k L1 cv (wo i ps) (wo i ps) w11 r114 hrow (by omega)).mono ?_
                    rintro e w12 ⟨rfl, q12, rfl⟩
                    rw [decide_eq_true (rfl : wo i ps = wo i ps)]
                    go_wp2_with fail
                    refine (without34 (some ⟨b, off, none⟩) n0 c i ts _ (r11.drewN q12) (by omega) hil).mono ?_
                    rintro e w13 ⟨v, rfl, hown, hb13⟩
                    obtain ⟨av2, cv2, rfl, hrow2, _, _⟩ := row_owned hown
                    have r135 : Row .u8 w13 (some ⟨g5, 0, none⟩) k (wo i ts) := Row.of_blk (rest := []) (by rw [List.append_nil]; exact (b115.drewN q12).keep hb13) HMT.out
                    have hbw13 : Below wy.heap.size wy w13 := (below_drewN hbw11 q12).trans (hb13.mono hbw11.size)
                    generalize (wo i ts).length = L2 at hrow2 ⊢
                    clear hown b115 r114 hrow r11
                    go_wp2_with fail
                    refine (equalBytes (some ⟨g5, 0, none⟩) av2 k k L2 cv2 (wo i ts) (wo i ts) w13 r135 hrow2 (by omega)).mono ?_
                    rintro e w14 ⟨rfl, q14, rfl⟩
                    rw [decide_eq_true (rfl : wo i ts = wo i ts)]
                    go_wp2
                    go_ret
                    exact ⟨rfl, below_drewN (HBX.out.trans (hbw13.mono HBX.out.size)) _⟩
                  · exact absurd hi (hn i)
                · rcases HCASE.out with ⟨rfl, k', hk', _⟩ | ⟨rfl, rfl, _, hps, hts⟩
                  · exact absurd hk' (hno k')
                  · subst hps
                    subst hts
                    clear hno HCASE hlt5
                    go_wp2_with fail
                    refine (isZero28 LB wr BLr.out).mono ?_
                    rintro e w10 ⟨rfl, q10, hw10⟩
                    have b104 : Blk w10 g4 (ints .i64 ps') 3 := by rw [hw10]; exact (B4.out.alloc _).drewN _
                    have b105 : Blk w10 g5 (ints .u8 ts') 5 := by rw [hw10]; exact (B5.out.alloc _).drewN _
                    have hb10 : Below wy.heap.size wy w10 := by rw [hw10]; exact below_drewN (HBY.out.alloc HBY.out.size _) _
                    have r4 : Row .i64 w10 (some ⟨g4, 0, none⟩) k ps' := Row.of_blk (rest := []) (by rw [List.append_nil]; exact b104) HMP.out
                    have r5 : Row .u8 w10 (some ⟨g5, 0, none⟩) k ts' := Row.of_blk (rest := []) (by rw [List.append_nil]; exact b105) HMT.out
                    have r0 := HR0.out.keep hb10
                    have r1 := HR1.out.keep hb10
                    clear hw10 b104 b105
                    go_wp2_with fail
                    refine (equalInts (some ⟨g4, 0, none⟩) a0 k k n0 c0 ps' ps' w10 r4 r0 (by omega)).mono ?_
                    rintro e w12 ⟨rfl, q12, rfl⟩
                    rw [decide_eq_true (rfl : ps' = ps')]
                    go_wp2_with fail
                    refine (equalBytes (some ⟨g5, 0, none⟩) a k k n0 c ts' ts' _ (r5.drewN q12) (r1.drewN q12) (by omega)).mono ?_
                    rintro e w13 ⟨rfl, q13, rfl⟩
                    rw [decide_eq_true (rfl : ts' = ts')]
                    go_wp2
                    go_ret
                    exact ⟨rfl, below_drewN (HBX.out.trans (hb10.mono HBX.out.size)) _⟩
    · go_enter Try.func5, Try.ntmps5
      go_wp2_with fail
      refine (bytes31 a0 a1 n0 c0 n1 c1 j w m0 m1).mono ?_
      rintro e w' ⟨r, rfl, hw⟩
      have hw2 := hw.symm
      subst hw2
      clear hw
      cases r with
      | false =>
        go_wp2
        go_ret
        exact ⟨rfl, Below.refl _ _⟩
      | true =>
        go_wp2
        go_ret
        exact ⟨rfl, Below.refl _ _⟩
  · go_enter Try.func5, Try.ntmps5
    go_wp2_with fail
    refine (bytes31 a0 a1 n0 c0 n1 c1 j w m0 m1).mono ?_
    rintro e w' ⟨r, rfl, hw⟩
    have hw2 := hw.symm
    subst hw2
    clear hw
    cases r with
    | false =>
      go_wp2
      go_ret
      exact ⟨rfl, Below.refl _ _⟩
    | true =>
      go_wp2
      go_ret
      exact ⟨rfl, Below.refl _ _⟩

end Go.Proofs.Qxb6600404a
