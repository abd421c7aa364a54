/-
  Seat b6600404a: the walk of FnLinkTableDenseGetFindsExactlyThePeers.
-/
import Derived.Test.Qxb6600404aDense5
namespace Go.Proofs.Qxb6600404a
open Go.RowKit
set_option linter.unusedVariables false
set_option linter.unusedSimpArgs false

theorem ownsRow_low {w : World} {base base' : Nat} {e : TypeId} {size : Nat} {v : Value} {n : Nat} {xs : List Value} (h : w.ownsRow base e size v n xs) (hb : base' ≤ base) : w.ownsRow base' e size v n xs := by
  rcases ownsRow_form h with ⟨rfl, rfl, rfl⟩ | ⟨g, cap, rest, rfl, hg, hnc, hcm, hl1, hl2, hblk⟩
  · exact World.ownsRow_nil _ _ _ _
  · exact ownsRow_mk (by omega) hnc hcm hl1 hl2 hblk

theorem sasc_inj {ps : List Int} {n i k : Nat} {j : Int} (hs : SAscTo ps n) (hl : ps.length = n) (hi : ps[i]? = some j) (hk : ps[k]? = some j) : i = k := by
  have h1 := (List.getElem?_eq_some_iff.1 hi).1
  have h2 := (List.getElem?_eq_some_iff.1 hk).1
  rcases Nat.lt_trichotomy i k with h | h | h
  · have := sasc_mono hs h (by omega) hi hk; omega
  · exact h
  · have := sasc_mono hs h (by omega) hk hi; omega

/-- The kept link at place k of a table: where it lies. -/
theorem LT.keptAt {w : World} {B t : Nat} {pv kv mv uv un av : Value} {ps ts : List Int} (h : LT w B t pv kv mv uv un av ps ts) {k : Nat} (hk : k < ts.length) : ∃ g cap rest, kv = .slice (some ⟨g, 0, none⟩) ts.length cap ∧ B ≤ g ∧ ts.length ≤ cap ∧ cap ≤ maxLen ∧ (links ts).length + rest.length = cap * 19 ∧ Blk w g (links ts ++ rest) 83 := by
  rcases ownsRow_form h.kept with ⟨rfl, h0, _⟩ | ⟨g, cap, rest, rfl, hg, hnc, hcm, hl1, hl2, hblk⟩
  · omega
  · exact ⟨g, cap, rest, rfl, hg, hnc, hcm, hl2, hblk⟩

theorem seq30q (g o : Nat) (v : Int) (w : World) (hc : w.cell? ⟨g, o + 13, none⟩ = some (.int .u8 v)) (n : Nat) :
    Calls Try.prog 30 #[.pointer (some ⟨g, o, none⟩)] (w.drewN n) (fun e w' => e = .returned (.int .u8 v) ∧ ∃ n, w' = w.drewN n) :=
  (seq30 g o v (w.drewN n) hc).mono (by rintro e w' ⟨rfl, rfl⟩; exact ⟨rfl, n, rfl⟩)

set_option maxHeartbeats 4000000 in
set_option maxRecDepth 100000 in
theorem topC (a0 a1 : Option Addr) (n0 c0 n1 c1 : Nat) (ps ts : List Int) (j : Int) (w : World) (h0 : Row .i64 w a0 n0 ps) (h1 : Row .u8 w a1 n1 ts) (m0 : n0 ≤ maxLen) (m1 : n1 ≤ maxLen) (z0 : a0 = none → n0 = 0 ∧ c0 = 0) (z1 : a1 = none → n1 = 0 ∧ c1 = 0) :
    Calls Try.prog 4 #[.slice a0 n0 c0, .slice a1 n1 c1, .int .i64 j] w fun e w' => e = .returned (.bool true) ∧ Below w.heap.size w w' := by
  have M0 := m0
  have M1 := m1
  unfold maxLen at M0 M1
  have Z0 := hid z0
  have Z1 := hid z1
  clear z0 z1
  by_cases hl0 : n0 ≤ 65536
  · by_cases hl1 : n1 ≤ 65536
    · have hne := fun (w : World) (a : Option Addr) (n c : Nat) => run_neq_slice_nil_any (P := Try.prog) w 34 5 a n c 0 0 Try.underlying34
      obtain ⟨i0, hi0, hz0, hz1, hz2⟩ := info_parts info5
      go_enter Try.func4, Try.ntmps4
      go_wp2_with fail
      refine (bytes18 a0 a1 n0 c0 n1 c1 j w m0 m1).mono ?_
      rintro e w' ⟨r, rfl, hw⟩
      have hw2 := hw.symm
      subst hw2
      clear hw
      cases r with
      | false =>
        go_wp2
        go_ret
        exact ⟨rfl, Below.refl _ _⟩
      | true =>
        go_wp2_with fail
        refine (denseOK19 a0 a1 n0 c0 n1 c1 ps _ h0 (by omega) (by omega)).mono ?_
        rintro e _ ⟨r, rfl, hr, q1, rfl⟩
        cases r with
        | false =>
          go_wp2
          go_ret
          exact ⟨rfl, Below.of_drewN _ _ _⟩
        | true =>
          obtain ⟨rfl, hs⟩ := hr rfl
          clear hr
          have H0 := hid h0
          have H1 := hid h1
          have HS := hid hs
          clear h0 h1 hs
          go_upto_if 34 with (fail)
          go_cut [1] from 16 (fun s1 wx => ∃ a c, s1 = .slice a n0 c ∧ Hid (Row .u8 wx a n0 ts) ∧ Below w.heap.size w wx)
          case first =>
            cases a1 with
            | none =>
              obtain ⟨rfl, rfl⟩ := Z1.out rfl
              go_wp2
              go_meet
              case rel => exact ⟨none, 0, rfl, H1.out.drewN _, Below.of_drewN _ _ _⟩
            | some x1 =>
              go_wp2_with (at_make; refine wpList_make_full _ rfl _ _ 34 rfl w.heap.size 5 i0 (.int .u8 0) 1 Try.underlying34 hi0 hz0 hz1 _ _ _ _ n0 rfl rfl rfl rfl (by rw [hz2]; omega) (by unfold maxLen; omega) (Nat.le_refl _) ?_)
              intro w1 hown1 hgrow1
              have hb1 : Below w.heap.size w w1 := (Below.of_drewN w q1 _).grown hgrow1 (Nat.le_refl _) (by simp)
              have k1 := made_ints hown1
              obtain ⟨w2, hr2, hb2, hf2⟩ := run_copy_blk (P := Try.prog) w1 34 34 3 5 i0 1 Try.underlying34 hi0 hz1 (some ⟨w.heap.size, 0, none⟩) (some x1) n0 n0 n0 c1 w.heap.size 0 _ 5 k1 (ints .u8 ts) (by rw [ints_length, H1.out.len]; show _ = min _ _ * 1; omega) (fun h => ⟨rfl, (H1.out.keep hb1).cells (by rw [ints_length, H1.out.len] at h; exact h)⟩) (by omega) (by rw [ints_length, H1.out.len, List.length_replicate]; omega) (ints_one _ _)
              clear hown1 hgrow1
              go_wp2
              go_meet
              case rel =>
                rw [splice_all (by rw [ints_length, H1.out.len, List.length_replicate])] at hb2
                exact ⟨some ⟨w.heap.size, 0, none⟩, n0, rfl, Row.of_blk (rest := []) (by rw [List.append_nil]; exact hb2) H1.out.len, hb1.trans (hf2.below hb1.size (by intro k hk; omega))⟩
          case rest =>
            obtain ⟨a, c, rfl, HR1, hbx⟩ := hcut
            obtain ⟨wy, hwy⟩ : ∃ wy : World, wy = wc := ⟨_, rfl⟩
            rw [← hwy] at HR1 hbx ⊢
            clear hwy
            have HR0 := hid (H0.out.keep hbx)
            have HLP := hid H0.out.len
            have HLT := hid H1.out.len
            have HBX := hid hbx
            clear hi0 hz0 hz1 hz2 hne H0 H1 Z1 m0 m1 M0 M1 hbx
            go_wp2_with fail
            refine (clone21 a0 n0 c0 ps wy HR0.out (by omega) Z0.out).mono ?_
            rintro e w2 ⟨v, rfl, hown, hb2, _⟩
            obtain ⟨ap, cp, rfl, hrow2, _, _⟩ := row_owned hown
            go_wp2_with fail
            refine (dense20 ap ps.length cp a n0 c ts w2 (HR1.out.keep hb2) (by omega)).mono ?_
            rintro e w3 ⟨rfl, ⟨kv, hdr, hkept⟩, hb3⟩
            have hlt : LT w3 wy.heap.size w2.heap.size (.slice ap ps.length cp) kv (.map none) (.slice none 0 0) (.int .i64 0) (.map none) ps ts := ⟨hdr, hb2.size, ownsRow_keep hown hb3, ownsRow_low hkept hb2.size⟩
            have HB3 : Hid (Below wy.heap.size wy w3) := hb2.trans (hb3.mono hb2.size)
            clear hdr hkept hown hrow2 hb2 hb3
            generalize Value.slice ap ps.length cp = pv at hlt
            generalize w2.heap.size = t at hlt ⊢
            go_wp2_with fail
            refine (get22_dense wy.heap.size t pv kv _ _ _ ps ts j w3 hlt (by rw [HLP.out, HLT.out]) (by rw [HLP.out]; omega) (by rw [HLP.out]; exact HS.out)).mono ?_
            rintro e w' ⟨hw, hget⟩
            have hw2 := hw.symm
            subst hw2
            clear hw
            have HG : ∃ (l : Option Addr) (ok : Bool), e = .returned (.tuple #[.pointer l, .bool ok]) ∧ Hid ((∃ (g k : Nat), kv.ownBlock = some g ∧ l = some ⟨g, k * 19, none⟩ ∧ ok = true ∧ ps[k]? = some j) ∨ (l = none ∧ ok = false ∧ ∀ k : Nat, ps[k]? ≠ some j)) := by
              rcases hget with ⟨g, k, h1, rfl, h2⟩ | ⟨rfl, h2⟩
              · exact ⟨_, _, rfl, .inl ⟨g, k, h1, rfl, rfl, h2⟩⟩
              · exact ⟨_, _, rfl, .inr ⟨rfl, rfl, h2⟩⟩
            obtain ⟨l, ok, rfl, HGET⟩ := HG
            clear hget
            go_wp2_with fail
            refine (peers23_of wy.heap.size t pv kv _ _ _ _ ps ts w3 hlt (by rw [HLP.out]; omega)).mono ?_
            rintro e w4 ⟨g4, rfl, hg4, hk4, hb4⟩
            have hlt4 := hlt.keep hb4
            go_wp2_with fail
            refine (tags24_of wy.heap.size t pv kv _ _ _ _ ps ts w4 hlt4 (by rw [HLT.out]; omega)).mono ?_
            rintro e w5 ⟨g5, rfl, hg5, hk5, hb5⟩
            have hlt5 := hid (hlt4.keep hb5)
            have HB5 : Hid (Below wy.heap.size wy w5) := (HB3.out.trans (hb4.mono HB3.out.size)).trans (hb5.mono (Nat.le_trans HB3.out.size hb4.size))
            have r4 : Row .i64 w5 (some ⟨g4, 0, none⟩) n0 ps := Row.of_blk (rest := []) (by rw [List.append_nil]; exact hk4.keep hb5) HLP.out
            have r5 : Row .u8 w5 (some ⟨g5, 0, none⟩) n0 ts := Row.of_blk (rest := []) (by rw [List.append_nil]; exact hk5) HLT.out
            have rp : Row .i64 w5 a0 n0 ps := HR0.out.keep HB5.out
            have rt : Row .u8 w5 a n0 ts := HR1.out.keep HB5.out
            rw [HLP.out, HLT.out]
            clear hk4 hk5 hb4 hb5 hlt4 hlt HB3 hg4 hg5
            go_wp2_with fail
            refine (equalInts (some ⟨g4, 0, none⟩) a0 n0 n0 n0 c0 ps ps w5 r4 rp (by omega)).mono ?_
            rintro e w6 ⟨rfl, q6, rfl⟩
            rw [decide_eq_true (rfl : ps = ps)]
            go_wp2_with fail
            refine (equalBytes (some ⟨g5, 0, none⟩) a n0 n0 n0 c ts ts _ (r5.drewN q6) (rt.drewN q6) (by omega)).mono ?_
            rintro e w7 ⟨rfl, q7, rfl⟩
            rw [decide_eq_true (rfl : ts = ts)]
            have HRP := hid rp
            have HRT := hid rt
            clear r4 r5 rp rt
            go_wp2
            go_loopw [13, 14] (fun i c' wr => ∃ k : Nat, k ≤ n0 ∧ i = .int .i64 k ∧ Below w5.heap.size w5 wr) (fun i _ _ => n0 - (intOf i).toNat)
            case atStart => exact ⟨0, Nat.zero_le _, rfl, below_drewN (Below.refl _ _) _⟩
            case round =>
              obtain ⟨k, hk, rfl, hb⟩ := hrel
              by_cases hlt : k < n0
              · have hL := hlt5.out.keep hb
                obtain ⟨g, cap, rest, rfl, hg, hnc, hcm, hl2, hblk⟩ := hL.keptAt (k := k) (by rw [HLT.out]; exact hlt)
                have hx := hid (List.getElem?_eq_getElem (l := ts) (i := k) (by rw [HLT.out]; exact hlt))
                have hhdr := hL.hdr
                rw [HLT.out] at hhdr
                generalize ts[k]'(by rw [HLT.out]; exact hlt) = x at hx
                clear hL hnc hcm hl2 hg
                go_wp2_with fail
                refine (copy26 t g n0 cap k pv _ _ _ _ ts rest x wr hhdr hblk hx hlt (by omega)).mono ?_
                rintro e w8 ⟨rfl, hw8⟩
                have b8 : Blk w8 wr.heap.size (linkC x) 83 := by rw [hw8]; exact Blk.new wr (linkC x) 83
                have hb8 : Below w5.heap.size w5 w8 := by rw [hw8]; exact hb.alloc hb.size _
                have hge : w5.heap.size ≤ wr.heap.size := hb.size
                clear hw8 hblk hhdr hb
                go_wp2_with fail
                refine (setSeq27 wr.heap.size 0 0 (.int .u8 x) w8 (by rw [Nat.zero_add]; exact b8.cell rfl) (by rw [Nat.zero_add]; exact b8.free 13)).mono ?_
                rintro e w9 ⟨rfl, hw9⟩
                have b9 : Blk w9 wr.heap.size (linkC 0) 83 := by rw [hw9, Nat.zero_add]; exact b8.set 13 _
                have hb9 : Below w5.heap.size w5 w9 := by rw [hw9]; exact hb8.setCell hge _
                clear hw9 b8 hb8
                go_wp2_with fail
                refine (isZero28 wr.heap.size w9 b9).mono ?_
                rintro e w10 ⟨rfl, q10, hw10⟩
                have hb10 : Below w5.heap.size w5 w10 := by rw [hw10]; exact below_drewN (hb9.alloc hb9.size _) _
                clear hw10 b9 hb9
                go_wp2
                go_roundw
                case rel => exact ⟨k + 1, by omega, by go_num, hb10⟩
                case measure => simp [intOf]; omega
              · obtain rfl : k = n0 := by omega
                have rp := HRP.out.keep hb
                have HBF : Hid (Below w.heap.size w wr) := HBX.out.trans ((HB5.out.trans (hb.mono HB5.out.size)).mono HBX.out.size)
                go_wp2_with fail
                refine (indexOf29 a0 k c0 ps j wr rp (by omega)).mono ?_
                rintro e w8 ⟨hw, hidx⟩
                have hw2 := hw.symm
                subst hw2
                clear hw rp
                rcases hidx with ⟨i, rfl, hi⟩ | ⟨rfl, hno⟩
                · rcases HGET.out with ⟨g, k', hg, rfl, rfl, hk'⟩ | ⟨_, _, hn⟩
                  · obtain rfl : i = k' := sasc_inj HS.out HLP.out hi hk'
                    have hil : i < k := by have := (List.getElem?_eq_some_iff.1 hi).1; rw [HLP.out] at this; exact this
                    obtain ⟨g', cap, rest, rfl, hg', hnc, hcm, hl2, hblk⟩ := (hlt5.out.keep hb).keptAt (k := i) (by rw [HLT.out]; exact hil)
                    obtain rfl : g' = g := by simpa [Value.ownBlock] using hg
                    obtain ⟨b, off, x, rfl, ex, HX⟩ := (HRT.out.keep hb).at i hil
                    have hc : wr.cell? ⟨g', i * 19 + 13, none⟩ = some (.int .u8 x) := hblk.link HX.out rfl
                    clear hg hg' hnc hcm hl2 hblk hi hk' HGET
                    go_wp2
                    go_quiet (exact seq30q g' (i * 19) x wr hc _)
                    go_wp2
                    go_ret
                    exact ⟨rfl, below_drewN HBF.out _⟩
                  · exact absurd hi (hn i)
                · rcases HGET.out with ⟨g, k', hg, rfl, rfl, hk'⟩ | ⟨rfl, rfl, _⟩
                  · exact absurd hk' (hno k')
                  · clear hno HGET
                    go_wp2
                    go_ret
                    exact ⟨rfl, HBF.out⟩
    · go_enter Try.func4, Try.ntmps4
      go_wp2_with fail
      refine (bytes18 a0 a1 n0 c0 n1 c1 j w m0 m1).mono ?_
      rintro e w' ⟨r, rfl, hw⟩
      have hw2 := hw.symm
      subst hw2
      clear hw
      cases r with
      | false =>
        go_wp2
        go_ret
        exact ⟨rfl, Below.refl _ _⟩
      | true =>
        go_wp2
        go_ret
        exact ⟨rfl, Below.refl _ _⟩
  · go_enter Try.func4, Try.ntmps4
    go_wp2_with fail
    refine (bytes18 a0 a1 n0 c0 n1 c1 j w m0 m1).mono ?_
    rintro e w' ⟨r, rfl, hw⟩
    have hw2 := hw.symm
    subst hw2
    clear hw
    cases r with
    | false =>
      go_wp2
      go_ret
      exact ⟨rfl, Below.refl _ _⟩
    | true =>
      go_wp2
      go_ret
      exact ⟨rfl, Below.refl _ _⟩

end Go.Proofs.Qxb6600404a
