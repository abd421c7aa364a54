/-
  Seat b6600404a: takeDown on a sparse table that keeps the link: up to the taking out.
-/
import Derived.Test.Qxb6600404aSparse4
namespace Go.Proofs.Qxb6600404a
open Go.RowKit
set_option linter.unusedVariables false
set_option linter.unusedSimpArgs false
attribute [-go_sem] Instr.loadAt
theorem la3 (p : Value) (w : World) : (Instr.loadAt 3 p).run Try.prog w = ((do loadVar 3 (← Instr.sureAddr p)) : Sem Value).run Try.prog w := rfl
theorem la5 (p : Value) (w : World) : (Instr.loadAt 5 p).run Try.prog w = ((do loadVar 5 (← Instr.sureAddr p)) : Sem Value).run Try.prog w := rfl
theorem la22 (p : Value) (w : World) : (Instr.loadAt 22 p).run Try.prog w = ((do loadVar 22 (← Instr.sureAddr p)) : Sem Value).run Try.prog w := rfl
theorem la70 (p : Value) (w : World) : (Instr.loadAt 70 p).run Try.prog w = ((do loadVar 70 (← Instr.sureAddr p)) : Sem Value).run Try.prog w := rfl
theorem la71 (p : Value) (w : World) : (Instr.loadAt 71 p).run Try.prog w = ((do loadVar 71 (← Instr.sureAddr p)) : Sem Value).run Try.prog w := rfl
attribute [local go_sem] la3 la5 la22 la70 la71

/-- A link's load, as the walk meets it. -/
theorem load83 {w : World} {g o : Nat} {cs : List Value} (h : w.rangeAt g o cs) (hcs : cs.length = 19) : (Instr.loadAt 83 (.pointer (some ⟨g, o, none⟩))).run Try.prog w = .ok (.agg cs.toArray) w := by
  obtain ⟨d, hu, hd⟩ := row83
  exact run_loadAt_mid w g o 83 cs d h hu hd (size83 hcs)

theorem Fr.setCells {M : Nat → Prop} {a : World} {g : Nat} (hg : M g) : ∀ (vs : List Value) (o : Nat) (w : World), Fr M a w → Fr M a (w.setCells g o vs)
  | [], _, _, h => h
  | v :: r, o, w, h => by
    rw [World.setCells]
    exact Fr.setCells hg r (o + 1) _ (Fr.setCell (p := ⟨g, o, none⟩) h v (fun _ => hg))

/-- A link's store into the middle of a row, as the walk meets it. -/
theorem storeMid83 {w : World} {g o : Nat} {cs cur : List Value} (hb : Blk w g cur 83) (hcs : cs.length = 19) (ho : o + 19 ≤ cur.length) (h1 : ∀ u ∈ cs, u.oneCell' = true) : (storeCells ⟨g, o, none⟩ cs 0).run Try.prog w = .ok () (w.setCells g o cs) := by
  have := run_storeCells_cells (P := Try.prog) g o cs 0 w (fun j hj => by
      rw [hb.cell (j := o + 0 + j) (v := cur[o + 0 + j]'(by omega)) (List.getElem?_eq_getElem (by omega))]; rfl) (fun j hj => hb.free _) h1
  simpa using this

/-- What is known of a sparse table behind a takeDown: its header, its runs, its index. -/
structure SH (w : World) (B t mb : Nat) (rs : List (Int × Int)) (f : Int → Option Int) : Prop where
  all : ∃ pv kv uv un m, Blk w t [pv, kv, .map (some mb), uv, .int .i64 un, .map none] 74 ∧ w.ownsRow B 68 2 uv rs.length (flat rs) ∧ IM w mb m f

/-- What takeDown comes to on a sparse table that keeps the link. -/
def TakeS (B t mb : Nat) (rs : List (Int × Int)) (j x : Int) (w : World) (e : Ending) (w' : World) : Prop :=
  e = .returned (.tuple #[.agg (linkC x).toArray, .bool true]) ∧ (∃ rs' f', SH w' B t mb rs' f' ∧ f' j = none ∧ Pw rs' ∧ rs'.length ≤ rs.length + 2 ∧ ¬ ∃ q ∈ rs', q.1 ≤ j ∧ j < q.2) ∧ Below B w w'

/-- The tail of takeDown: the two rows are cut shorter; the record goes into the result's block. -/
theorem tail52 {B t R LL mb m : Nat} {v1 v2 a1 a2 uv : Value} {un : Int} {cs : List Value} {rs : List (Int × Int)} {f : Int → Option Int} {w w4 : World}
    (hBt : B ≤ t) (hBR : B ≤ R) (htR : t ≠ R) (htL : t ≠ LL) (hmt : mb ≠ t) (hmR : mb ≠ R)
    (D4 : Blk w4 t [a1, a2, .map (some mb), uv, .int .i64 un, .map none] 74) (R4 : Blk w4 R (linkC 0) 83) (L4 : Blk w4 LL cs 83) (I4 : IM w4 mb m f) (U4 : w4.ownsRow B 68 2 uv rs.length (flat rs)) (b4 : Below B w w4) :
    Blk ((w4.setCell ⟨t, 0, none⟩ v1).setCell ⟨t, 1, none⟩ v2).drew R (linkC 0) 83 ∧ Blk ((w4.setCell ⟨t, 0, none⟩ v1).setCell ⟨t, 1, none⟩ v2).drew LL cs 83 ∧
      SH (((w4.setCell ⟨t, 0, none⟩ v1).setCell ⟨t, 1, none⟩ v2).drew.setRow R cs.toArray) B t mb rs f ∧ Below B w (((w4.setCell ⟨t, 0, none⟩ v1).setCell ⟨t, 1, none⟩ v2).drew.setRow R cs.toArray) := by
  have FT := (two_stores w4 t v1 v2).drew
  have FR := row_store ((w4.setCell ⟨t, 0, none⟩ v1).setCell ⟨t, 1, none⟩ v2).drew R cs.toArray
  have hB4 : B ≤ w4.heap.size := by have := R4.lt; omega
  have hu : ∀ g, uv.ownBlock = some g → g ≠ t ∧ g ≠ R := fun g hg => by
    rcases ownsRow_form U4 with ⟨rfl, _⟩ | ⟨g', c', rest, rfl, _, _, _, _, _, hblk⟩
    · simp [Value.ownBlock] at hg
    · simp [Value.ownBlock] at hg; subst hg
      exact ⟨hblk.ne_type D4 (by decide), hblk.ne_type R4 (by decide)⟩
  have D5 : Blk ((w4.setCell ⟨t, 0, none⟩ v1).setCell ⟨t, 1, none⟩ v2).drew t [v1, v2, .map (some mb), uv, .int .i64 un, .map none] 74 := (D4.set 0 v1).set 1 v2
  refine ⟨R4.fr FT (fun h => htR h.symm), L4.fr FT (fun h => htL h.symm), ⟨⟨v1, v2, uv, un, m, D5.fr FR htR, ?_, ?_⟩⟩, ?_⟩
  · exact ownsRow_fr (ownsRow_fr U4 FT (fun g hg => (hu g hg).1)) FR (fun g hg => (hu g hg).2)
  · exact (I4.fr FT hmt).fr FR hmR
  · exact (b4.trans (FT.below hB4 (by intro q hq; omega))).trans (FR.below (Nat.le_trans hB4 FT.size) (by intro q hq; omega))

set_option maxHeartbeats 4000000 in
set_option maxRecDepth 100000 in
theorem takeDown52_sparse (B t : Nat) (a : Option Addr) (cp gk ck N : Nat) (mb : Nat) (uv : Value) (un : Int) (ps ts : List Int) (rs : List (Int × Int)) (f : Int → Option Int) (m k : Nat) (j x : Int) (w : World)
    (h : ST w B t (.slice a N cp) (.slice (some ⟨gk, 0, none⟩) N ck) mb uv un ps ts rs f m) (hp : ps.length = N) (ht : ts.length = N) (hN : N ≤ 500000) (hm : m ≤ 1000000) (hf : f j = some (k : Int)) (hk : k < N) (hpk : ps[k]? = some j) (htk : ts[k]? = some x) (hd : Dist ps) (hfit : ∀ y ∈ ps, Fits y)
    (hin : ∃ q ∈ rs, q.1 ≤ j ∧ j < q.2) (hpw : Pw rs) (hbd : Bd rs) (hlen : rs.length ≤ 10000000) (hn0 : 0 ≤ un) (hn1 : un ≤ 4611686018427387903) (hj : Fits j) (hBw : B ≤ w.heap.size) :
    Calls Try.prog 52 #[.pointer (some ⟨t, 0, none⟩), .int .i64 j] w (TakeS B t mb rs j x w) := by
  have hb0 : Below w.heap.size w (w.alloc (.cells (linkC 0).toArray 83)) := (Below.refl _ _).alloc (Nat.le_refl _) _
  have HW := hid (h.keep hb0)
  have HR : Hid (Blk (w.alloc (.cells (linkC 0).toArray 83)) w.heap.size (linkC 0) 83) := Blk.new w (linkC 0) 83
  have HSZ : Hid ((w.alloc (.cells (linkC 0).toArray 83)).heap.size = w.heap.size + 1) := by show _ = _; simp
  have HBW := hid hb0
  have HTR := hid h.tab.hdr.lt
  have HKR : Hid (gk < w.heap.size) := (h.tab.kept.lt gk rfl).2
  have HMR := hid h.map.lt
  obtain ⟨W, hW⟩ : ∃ W, W = w.alloc (.cells (linkC 0).toArray 83) := ⟨_, rfl⟩
  rw [← hW] at HW HR HSZ HBW
  have c2 := HW.out.tab.hdr.cell (j := 2) rfl
  have HP := hid hp
  have HT := hid ht
  have HF := hid hf
  have HPK := hid hpk
  have HTK := hid htk
  have HD := hid hd
  have HFIT := hid hfit
  have HIN := hid hin
  clear h hb0 hp ht hf hpk htk hd hfit hin
  go_enter Try.func52, Try.ntmps52
  go_wp2_with fail
  have hW2 : w.alloc (.cells #[.float .f64 0, .float .f64 0, .float .f64 0, .float .f64 0, .float .f64 0, .float .f64 0, .float .f64 0, .float .f64 0, .float .f64 0, .float .f64 0, .int .u32 0, .int .u8 0, .int .u8 0, .int .u8 0, .int .u8 0, .int .u8 0, .int .u8 0, .bool false, .bool false] 83) = W := hW.symm
  rw [hW2]
  clear hW hW2
  generalize hRR : w.heap.size = R at HR HSZ HBW hBw HTR HKR HMR ⊢
  have HRR := hid hRR
  clear hRR
  refine (sparse60 t (some mb) W c2).mono ?_
  rintro e w' ⟨rfl, hw⟩
  have hw2 := hw.symm; subst hw2
  clear hw c2
  go_wp2_with fail
  refine (rem56 (hdrL (.slice a N cp) (.slice (some ⟨gk, 0, none⟩) N ck) (.map (some mb)) (.map none)) (by decide) B t uv rs un j W HW.out.tab.low HW.out.rs hpw hbd (by omega) hn0 hn1).mono ?_
  rintro e w2 ⟨r, uv', rs', un', rfl, hrs2, hfr2, hat2, hcase⟩
  obtain ⟨rfl, L, q, R0, hrs, hq1, hq2, hrs'⟩ : r = true ∧ ∃ L q R0, rs = L ++ q :: R0 ∧ q.1 ≤ j ∧ j < q.2 ∧ rs' = L ++ remMid q j ++ R0 := by
    rcases hcase with ⟨_, _, _, hno⟩ | ⟨h1, _, L, q, R0, h2, h3, h4, h5⟩
    · obtain ⟨q, hq, hq'⟩ := HIN.out
      exact absurd hq' (hno q hq)
    · exact ⟨h1, L, q, R0, h2, h3, h4, h5⟩
  have HRS : Hid (Pw rs' ∧ rs'.length ≤ rs.length + 2 ∧ ¬ ∃ q ∈ rs', q.1 ≤ j ∧ j < q.2) := by
    have h1 := rem_sets (hrs ▸ hpw) hq1 hq2
    refine ⟨hrs' ▸ h1.1, ?_, ?_⟩
    · have := mid_length q j
      rw [hrs', hrs]; simp; omega
    · intro h
      have := (h1.2 j).1 (hrs' ▸ h)
      exact this.2 rfl
  clear hcase hrs hq1 hq2 hrs' HIN
  as_aux_lemma =>
    have hu : ∀ g, uv.ownBlock = some g → ∃ cs, Blk W g cs 68 := fun g hg => by
      rcases ownsRow_form HW.out.runs with ⟨rfl, _⟩ | ⟨g', c', rest, rfl, _, _, _, _, _, hblk⟩
      · simp [Value.ownBlock] at hg
      · simp [Value.ownBlock] at hg; subst hg; exact ⟨_, hblk⟩
    rcases ownsRow_form HW.out.tab.peers with ⟨_, h0, _⟩ | ⟨gp, cpp, restp, hv, hgp, hncp, hcmp, hlp1, hlp2, hblkp⟩
    · exact absurd h0 (by rw [HP.out]; omega)
    simp only [Value.slice.injEq] at hv
    obtain ⟨rfl, hNe, rfl⟩ := hv
    clear hNe
    obtain ⟨gk', ck', restk, hv, hgk, hnck, hcmk, hlk2, hblkk⟩ := HW.out.tab.keptAt (k := k) (by rw [HT.out]; exact hk)
    simp only [Value.slice.injEq, Option.some.injEq, Addr.mk.injEq, and_true] at hv
    obtain ⟨rfl, hNe, rfl⟩ := hv
    clear hNe
    rw [HP.out] at hncp
    rw [HT.out] at hnck
    have hpt := hblkp.ne_type HW.out.tab.hdr (by decide)
    have hkt := hblkk.ne_type HW.out.tab.hdr (by decide)
    have hpk := hblkp.ne_type hblkk (by decide)
    have hmt := HW.out.map.ne HW.out.tab.hdr
    have hmp := HW.out.map.ne hblkp
    have hmk := HW.out.map.ne hblkk
    have hRt : R ≠ t := by have := HTR.out; omega
    have P2 := hid (hblkp.fr hfr2 (fun hh => hh.elim hpt (fun h => (hu _ h).elim (fun cs hb => hb.ne_type hblkp (by decide) rfl))))
    have K2 := hid (hblkk.fr hfr2 (fun hh => hh.elim hkt (fun h => (hu _ h).elim (fun cs hb => hb.ne_type hblkk (by decide) rfl))))
    have R2 := hid (HR.out.fr hfr2 (fun hh => hh.elim hRt (fun h => (hu _ h).elim (fun cs hb => hb.ne_type HR.out (by decide) rfl))))
    have I2 := hid (HW.out.map.fr hfr2 (fun hh => hh.elim hmt (fun h => (hu _ h).elim (fun cs hb => HW.out.map.ne hb rfl))))
    have D2 : Hid (Blk w2 t [.slice (some ⟨gp, 0, none⟩) N cp, .slice (some ⟨gk, 0, none⟩) N ck, .map (some mb), uv', .int .i64 un', .map none] 74) := hrs2.hdr
    have U2 := hid hrs2.row
    have hsz2 : W.heap.size ≤ w2.heap.size := hfr2.size
    have HBt := hid HW.out.tab.low
    have HBm := hid HW.out.lowm
    have B2 : Hid (Below B w w2) := (HBW.out.mono hBw).trans (hfr2.below (Nat.le_trans hBw (by rw [HSZ.out]; omega)) (by
      rintro q (hq | hq)
      · have := HBt.out; omega
      · exact (HW.out.runs.lt q hq).1))
    have hR2 : R + 1 ≤ w2.heap.size := by rw [← HSZ.out]; exact hsz2
    have htl : t < w2.heap.size := D2.out.lt
    have hlook := I2.out.look j hj
    rw [HF.out] at hlook
    simp only [Option.getD_some, Option.isSome_some] at hlook
    have c1 := D2.out.cell (j := 1) rfl
    have c2 := D2.out.cell (j := 2) rfl
    have hr : Hid (w2.rangeAt gk (k * 19) (linkC x)) := fun q v hv => K2.out.link HTK.out hv
    have HC19 := hid (linkC_length x)
    have HC1 := hid (linkC_one x)
    obtain ⟨cs, hcs⟩ : ∃ cs, cs = linkC x := ⟨_, rfl⟩
    rw [← hcs] at hr HC19 HC1
    have HCS := hid hcs
    have hl1 : (Instr.loadAt 83 (.pointer (some ⟨gk, k * 19, none⟩))).run Try.prog w2.drew = .ok (.agg cs.toArray) w2.drew := load83 (w := w2.drew) (by simpa using hr.out) HC19.out
    have hl2 : (Instr.loadAt 83 (.pointer (some ⟨gk, k * 19, none⟩))).run Try.prog (w2.alloc (.cells #[.float .f64 0, .float .f64 0, .float .f64 0, .float .f64 0, .float .f64 0, .float .f64 0, .float .f64 0, .float .f64 0, .float .f64 0, .float .f64 0, .int .u32 0, .int .u8 0, .int .u8 0, .int .u8 0, .int .u8 0, .int .u8 0, .int .u8 0, .bool false, .bool false] 83)).drew = .ok (.agg cs.toArray) (w2.alloc (.cells #[.float .f64 0, .float .f64 0, .float .f64 0, .float .f64 0, .float .f64 0, .float .f64 0, .float .f64 0, .float .f64 0, .float .f64 0, .float .f64 0, .int .u32 0, .int .u8 0, .int .u8 0, .int .u8 0, .int .u8 0, .int .u8 0, .int .u8 0, .bool false, .bool false] 83)).drew := load83 (w := (w2.alloc _).drew) (by simpa using World.rangeAt_alloc hr.out _) HC19.out
    have hlz : cs.length = 19 := HC19.out
    have hs1 : (storeCells ⟨w2.heap.size, 0, none⟩ cs 0).run Try.prog (w2.alloc (.cells #[.float .f64 0, .float .f64 0, .float .f64 0, .float .f64 0, .float .f64 0, .float .f64 0, .float .f64 0, .float .f64 0, .float .f64 0, .float .f64 0, .int .u32 0, .int .u8 0, .int .u8 0, .int .u8 0, .int .u8 0, .int .u8 0, .int .u8 0, .bool false, .bool false] 83)).drew = .ok () (w2.alloc (.cells cs.toArray 83)).drew := storeNew83 (w := w2.drew) HC19.out HC1.out _ rfl
    clear hat2 hrs2 hfr2 hu hcs hblkp hblkk hsz2 HW HR HSZ HBW
    as_aux_lemma =>
      have D3 := hid (D2.out.alloc (.cells cs.toArray 83)).drew
      have P3 := hid (P2.out.alloc (.cells cs.toArray 83)).drew
      have K3 := hid (K2.out.alloc (.cells cs.toArray 83)).drew
      have R3 := hid (R2.out.alloc (.cells cs.toArray 83)).drew
      have I3 := hid (I2.out.alloc (.cells cs.toArray 83)).drew
      have L3 := hid (Blk.new w2 cs 83).drew
      have U3 := hid (World.ownsRow.drew (ownsRow_keep U2.out (((Below.refl _ _).alloc (Nat.le_refl _) (.cells cs.toArray 83)) : Below w2.heap.size w2 (w2.alloc (.cells cs.toArray 83)))))
      have B3 : Hid (Below B w (w2.alloc (.cells cs.toArray 83)).drew) := (B2.out.alloc (by omega) _).drew
      go_wp2
      go_region
      generalize (w2.alloc (.cells cs.toArray 83)).drew = W3 at D3 P3 K3 R3 I3 L3 U3 B3 ⊢
      generalize hLL : w2.heap.size = LL at L3 hR2 htl ⊢
      clear hLL hl1 hl2 hs1 c1 c2 hlook D2 P2 K2 R2 I2 U2 B2 hr
      as_aux_lemma =>
        obtain ⟨w4, hrun4, him4, hfr4⟩ := I3.out.drop j hj 0
        have htL : t ≠ LL := by have := HTR.out; omega
        have hmR : mb ≠ R := by have := HMR.out; omega
        have hmL : mb ≠ LL := by have := HMR.out; omega
        have d2 := D3.out.cell (j := 2) rfl
        have D4 := hid (D3.out.fr hfr4 (fun h => hmt h.symm))
        have P4 := hid (P3.out.fr hfr4 (fun h => hmp h.symm))
        have K4 := hid (K3.out.fr hfr4 (fun h => hmk h.symm))
        have R4 := hid (R3.out.fr hfr4 (fun h => hmR h.symm))
        have L4 := hid (L3.out.fr hfr4 (fun h => hmL h.symm))
        have I4 := hid him4
        have U4 := hid (ownsRow_fr U3.out hfr4 (fun g hg h => by
          rcases ownsRow_form U3.out with ⟨rfl, _⟩ | ⟨g', c', rest, rfl, _, _, _, _, _, hblk⟩
          · simp [Value.ownBlock] at hg
          · simp [Value.ownBlock] at hg; subst hg; exact I3.out.ne hblk h.symm))
        have hBW3 : B ≤ W3.heap.size := by have := R3.out.lt; omega
        have B4 : Hid (Below B w w4) := B3.out.trans (hfr4.below hBW3 (by intro q hq; have := HBm.out; omega))
        have hBw4 : B ≤ w4.heap.size := Nat.le_trans hBW3 hfr4.size
        clear D3 P3 K3 R3 I3 L3 U3 B3 him4 hfr4
        as_aux_lemma =>
          by_cases hkl : k + 1 = N
          · have hb : ((k : Int) != (N : Int) - 1) = false := by simp; omega
            have c0 := D4.out.cell (j := 0) rfl
            have c1 := D4.out.cell (j := 1) rfl
            have f0 := D4.out.free 0
            have f1 := D4.out.free 1
            go_wp2
            go_region
            have T := tail52 (v1 := .slice (some ⟨gp, 0, none⟩) (N - 1) cp) (v2 := .slice (some ⟨gk, 0, none⟩) (N - 1) ck) HBt.out hBw (fun h => hRt h.symm) htL hmt hmR D4.out R4.out L4.out I4.out U4.out B4.out
            have TR := hid T.1
            have TL := hid T.2.1
            have TS := hid T.2.2.1
            have TB := hid T.2.2.2
            clear T c0 c1 f0 f1
            as_aux_lemma =>
              generalize ((w4.setCell ⟨t, 0, none⟩ (.slice (some ⟨gp, 0, none⟩) (N - 1) cp)).setCell ⟨t, 1, none⟩ (.slice (some ⟨gk, 0, none⟩) (N - 1) ck)).drew = W5 at TR TL TS TB ⊢
              have hl5 : (Instr.loadAt 83 (.pointer (some ⟨LL, 0, none⟩))).run Try.prog W5 = .ok (.agg cs.toArray) W5 := load83 (fun q v hv => by rw [Nat.zero_add]; exact TL.out.cell hv) HC19.out
              have hst5 := storeOld83 HC19.out HC1.out TR.out (linkC_length 0)
              go_wp2
              refine bodyPost_ret (v := .tuple #[.agg cs.toArray, .bool true]) (ret52 rfl rfl (TR.out.setRow cs) HC19.out) rfl ?_
              exact ⟨by rw [HCS.out], ⟨rs', _, TS.out, by simp [del], HRS.out.1, HRS.out.2.1, HRS.out.2.2⟩, TB.out⟩
          · have hb : ((k : Int) != (N : Int) - 1) = true := by simp; omega
            obtain ⟨Z, hZ⟩ : ∃ Z : Nat, N = Z + 1 := ⟨N - 1, by omega⟩
            subst hZ
            obtain ⟨y, hy⟩ : ∃ y, ps[Z]? = some y := ⟨_, List.getElem?_eq_getElem (by rw [HP.out]; omega)⟩
            obtain ⟨xl, hxl⟩ : ∃ xl, ts[Z]? = some xl := ⟨_, List.getElem?_eq_getElem (by rw [HT.out]; omega)⟩
            have hyj : y ≠ j := fun h => HD.out k Z j y (by omega) HPK.out hy h.symm
            have c0 := D4.out.cell (j := 0) rfl
            have c1 := D4.out.cell (j := 1) rfl
            have ey : w4.cell? ⟨gp, Z, none⟩ = some (.int .i64 y) := P4.out.cell (by rw [List.getElem?_append_left (by rw [ints_length, HP.out]; omega)]; exact ints_get hy)
            have ek : w4.cell? ⟨gp, k, none⟩ = some (.int .i64 j) := P4.out.cell (by rw [List.getElem?_append_left (by rw [ints_length, HP.out]; omega)]; exact ints_get HPK.out)
            have fk := P4.out.free k
            have HRL : Hid (w4.rangeAt gk (Z * 19) (linkC xl)) := fun q v hv => K4.out.link hxl hv
            have HC29 := hid (linkC_length xl)
            have HC21 := hid (linkC_one xl)
            obtain ⟨cs2, hcs2⟩ : ∃ cs2, cs2 = linkC xl := ⟨_, rfl⟩
            rw [← hcs2] at HRL HC29 HC21
            have hl4 : (Instr.loadAt 83 (.pointer (some ⟨gk, Z * 19, none⟩))).run Try.prog w4.drew = .ok (.agg cs2.toArray) w4.drew := load83 (w := w4.drew) (by simpa using HRL.out) HC29.out
            have hlz2 : cs2.length = 19 := HC29.out
            have hst4 : (storeCells ⟨gk, k * 19, none⟩ cs2 0).run Try.prog (w4.setCell ⟨gp, k, none⟩ (.int .i64 y)).drew = .ok () ((w4.setCell ⟨gp, k, none⟩ (.int .i64 y)).drew.setCells gk (k * 19) cs2) :=
              storeMid83 (w := (w4.setCell ⟨gp, k, none⟩ (.int .i64 y)).drew) (K4.out.other _ (fun h => hpk h.symm)) HC29.out (by rw [List.length_append, links_length, HT.out]; omega) HC21.out
            have HYJ := hid hyj
            have HY := hid hy
            have F6 : Hid (Fr (fun q => q = gp ∨ q = gk) w4 ((w4.setCell ⟨gp, k, none⟩ (.int .i64 y)).drew.setCells gk (k * 19) cs2)) := Fr.setCells (Or.inr rfl) cs2 (k * 19) _ (Fr.drew (Fr.setCell (p := ⟨gp, k, none⟩) (Fr.refl _ w4) _ (fun _ => Or.inl rfl)))
            have P6 : Hid (Blk ((w4.setCell ⟨gp, k, none⟩ (.int .i64 y)).drew.setCells gk (k * 19) cs2) gp ((ints .i64 ps ++ restp).set k (.int .i64 y)) 3) := (P4.out.set k (.int .i64 y)).drew.fr (Fr.setCells (M := fun q => q = gk) rfl cs2 (k * 19) _ (Fr.refl _ _)) hpk
            have hkl1 : k < Z := by omega
            have hRgp : R ≠ gp := R4.out.ne_type P4.out (by decide)
            have hLgp : LL ≠ gp := L4.out.ne_type P4.out (by decide)
            have hRgk : R ≠ gk := by have := HKR.out; omega
            have hLgk : LL ≠ gk := by have := HKR.out; omega
            clear hcs2 hyj hy hxl
            as_aux_lemma =>
              go_wp2
              go_region
              have D6 := hid (D4.out.fr F6.out (fun hh => hh.elim (fun h => hpt h.symm) (fun h => hkt h.symm)))
              have R6 := hid (R4.out.fr F6.out (fun hh => hh.elim hRgp hRgk))
              have L6 := hid (L4.out.fr F6.out (fun hh => hh.elim hLgp hLgk))
              have I6 := hid (I4.out.fr F6.out (fun hh => hh.elim hmp hmk))
              have U6 := hid (ownsRow_fr U4.out F6.out (fun g hg hh => by
                rcases ownsRow_form U4.out with ⟨rfl, _⟩ | ⟨g', c', rest, rfl, _, _, _, _, _, hblk⟩
                · simp [Value.ownBlock] at hg
                · simp [Value.ownBlock] at hg; subst hg
                  exact hh.elim (hblk.ne_type P4.out (by decide)) (hblk.ne_type K4.out (by decide))))
              have B6 : Hid (Below B w _) := B4.out.trans (F6.out.below hBw4 (by rintro q (hq | hq) <;> omega))
              have ek6 := P6.out.cell (j := k) (v := .int .i64 y) (by rw [List.getElem?_set_self (by rw [List.length_append, ints_length, HP.out]; omega)])
              have hBw6 : B ≤ ((w4.setCell ⟨gp, k, none⟩ (.int .i64 y)).drew.setCells gk (k * 19) cs2).heap.size := Nat.le_trans hBw4 F6.out.size
              generalize (w4.setCell ⟨gp, k, none⟩ (.int .i64 y)).drew.setCells gk (k * 19) cs2 = W6 at D6 R6 L6 I6 U6 B6 ek6 hBw6 ⊢
              clear F6 P6 hl4 hst4 ey ek fk c0 c1 D4 R4 L4 I4 U4 B4 HRL P4 K4
              as_aux_lemma =>
                obtain ⟨w7, hrun7, him7, hfr7⟩ := I6.out.drew.put y k (HFIT.out y (List.mem_of_getElem? HY.out)) (fits_nat (by omega)) (by unfold maxLen; omega)
                have c0 := D6.out.cell (j := 0) rfl
                have c2 := D6.out.cell (j := 2) rfl
                have D7 := hid (D6.out.drew.fr hfr7 (fun h => hmt h.symm))
                have R7 := hid (R6.out.drew.fr hfr7 (fun h => hmR h.symm))
                have L7 := hid (L6.out.drew.fr hfr7 (fun h => hmL h.symm))
                have I7 := hid him7
                have U7 := hid (ownsRow_fr (World.ownsRow.drew U6.out) hfr7 (fun g hg h => by
                  rcases ownsRow_form U6.out with ⟨rfl, _⟩ | ⟨g', c', rest, rfl, _, _, _, _, _, hblk⟩
                  · simp [Value.ownBlock] at hg
                  · simp [Value.ownBlock] at hg; subst hg; exact I6.out.ne hblk h.symm))
                have B7 : Hid (Below B w w7) := B6.out.trans ((Below.refl B W6).drew.trans (hfr7.below (by exact hBw6) (by intro q hq; have := HBm.out; omega)))
                have HN : Hid (upd (del f j) y (k : Int) j = none) := by show _ = _; simp [upd, del, show ¬ j = y from fun h => HYJ.out h.symm]
                have HX : Hid (B ≤ R ∧ t ≠ R ∧ t ≠ LL ∧ mb ≠ t ∧ mb ≠ R) := ⟨hBw, fun h => hRt h.symm, htL, hmt, hmR⟩
                clear him7 hfr7 D6 R6 L6 I6 U6 B6
                as_aux_lemma =>
                  clear hpw hbd hlen hn0 hn1 hj HF HPK HTK HD HFIT HY hlp1 hlp2 hcmp hcmk hlk2 hgp hgk hpt hkt hpk hmp hmk hrun4 d2 hBW3 hBw4 hb hkl hlz2 HC21 HC29 hRgp hLgp hRgk hLgk hBw6 htl hR2 HP HT HTR HKR HMR HRR hm hBw hRt htL hmt hmR hmL
                  go_wp2
                  go_region
                  clear hrun7 c0 c2 ek6
                  as_aux_lemma =>
                    have hN1 : 1 ≤ Z + 1 := by omega
                    clear hk hkl1 hN
                    generalize Z + 1 = N at D7 hN1 hncp hnck ⊢
                    have c0 := D7.out.cell (j := 0) rfl
                    have c1 := D7.out.cell (j := 1) rfl
                    have f0 := D7.out.free 0
                    have f1 := D7.out.free 1
                    go_wp2
                    go_region
                    have T := tail52 (v1 := .slice (some ⟨gp, 0, none⟩) (N - 1) cp) (v2 := .slice (some ⟨gk, 0, none⟩) (N - 1) ck) HBt.out HX.out.1 HX.out.2.1 HX.out.2.2.1 HX.out.2.2.2.1 HX.out.2.2.2.2 D7.out R7.out L7.out I7.out U7.out B7.out
                    have TR := hid T.1
                    have TL := hid T.2.1
                    have TS := hid T.2.2.1
                    have TB := hid T.2.2.2
                    clear T c0 c1 f0 f1
                    as_aux_lemma =>
                      generalize ((w7.setCell ⟨t, 0, none⟩ (.slice (some ⟨gp, 0, none⟩) (N - 1) cp)).setCell ⟨t, 1, none⟩ (.slice (some ⟨gk, 0, none⟩) (N - 1) ck)).drew = W5 at TR TL TS TB ⊢
                      have hl5 : (Instr.loadAt 83 (.pointer (some ⟨LL, 0, none⟩))).run Try.prog W5 = .ok (.agg cs.toArray) W5 := load83 (fun q v hv => by rw [Nat.zero_add]; exact TL.out.cell hv) HC19.out
                      have hst5 := storeOld83 HC19.out HC1.out TR.out (linkC_length 0)
                      go_wp2
                      refine bodyPost_ret (v := .tuple #[.agg cs.toArray, .bool true]) (ret52 rfl rfl (TR.out.setRow cs) HC19.out) rfl ?_
                      exact ⟨by rw [HCS.out], ⟨rs', _, TS.out, HN.out, HRS.out.1, HRS.out.2.1, HRS.out.2.2⟩, TB.out⟩
end Go.Proofs.Qxb6600404a
