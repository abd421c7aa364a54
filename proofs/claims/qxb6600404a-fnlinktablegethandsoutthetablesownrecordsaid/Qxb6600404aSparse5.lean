/-
  Seat b6600404a: get on a sparse table: a link that is up and not kept yet.
-/
import Derived.Test.Qxb6600404aSparse4
namespace Go.Proofs.Qxb6600404a
open Go.RowKit
set_option linter.unusedVariables false
set_option linter.unusedSimpArgs false

theorem Blk.new2 (w : World) (o : Obj) (cs : List Value) (t : TypeId) : Blk ((w.alloc o).alloc (.cells cs.toArray t)) (w.heap.size + 1) cs t := by
  have := Blk.new (w.alloc o) cs t
  simpa using this

/-- One int more, where there is room: a step of a region that draws its order. -/
theorem stepP {ops : Array Oper} {o : Oper} {a : Act} {w : World} {K : Act → World → Prop} {Q : Exit → Act → World → Prop} {E : Prop} (i0 : TypeInfo) (hi0 : Try.prog.info? 3 = some i0) (hz1 : i0.size = 1)
    (hgd : o.guard = none) (s x : Operand) (hop : o.op = Op.call { callee := Callee.builtin Builtin.append, args := #[s, x], argTypes := #[22, 22] })
    (gp N cap : Nat) (cur : List Value) (hs : a.eval s = .slice (some ⟨gp, 0, none⟩) N cap) (b : Nat) (j : Int) (hx : a.eval x = .slice (some ⟨b, 0, none⟩) 1 1)
    (w0 : World) (hW : Fr (fun _ => False) w0 w) (hg : Blk w0 gp cur 3) (hb : Blk w b [.int .i64 j] 3) (hroom : N + 1 ≤ cap) (hfit : N + 1 ≤ cur.length)
    (hK : ∀ w', Blk w' gp (splice cur N [.int .i64 j]) 3 → Fr (fun k => k = gp) w w' → K (a.put o.dst (.slice (some ⟨gp, 0, none⟩) (N + 1) cap)) w') :
    if Region.wanted o (yielded ops a.tmps) = true then Oper.wp Try.prog o a w K Q else E := by
  refine step_append_blk hgd s x 22 hop 3 i0 1 Try.underlying22 hi0 hz1 gp N cap cur hs (hg.fr hW id) (some ⟨b, 0, none⟩) 1 1 [.int .i64 j] hx rfl (fun h => by cases h) ?_ ?_ hroom (by simpa using hfit) (by simpa using hK)
  · intro ad ha q u hu
    cases ha
    rw [Addr.add_lit, Nat.zero_add]
    exact hb.cell hu
  · intro u hu; simp at hu; subst hu; rfl

/-- One zero link more, where there is room. -/
theorem stepK {ops : Array Oper} {o : Oper} {a : Act} {w : World} {K : Act → World → Prop} {Q : Exit → Act → World → Prop} {E : Prop} (i0 : TypeInfo) (hi0 : Try.prog.info? 83 = some i0) (hz1 : i0.size = 19)
    (hgd : o.guard = none) (s x : Operand) (hop : o.op = Op.call { callee := Callee.builtin Builtin.append, args := #[s, x], argTypes := #[70, 70] })
    (gk N cap : Nat) (cur : List Value) (hs : a.eval s = .slice (some ⟨gk, 0, none⟩) N cap) (b : Nat) (hx : a.eval x = .slice (some ⟨b, 0, none⟩) 1 1)
    (w0 : World) (hW : Fr (fun _ => False) w0 w) (hg : Blk w0 gk cur 83) (hb : Blk w b (linkC 0) 83) (hroom : N + 1 ≤ cap) (hfit : (N + 1) * 19 ≤ cur.length)
    (hK : ∀ w', Blk w' gk (splice cur (N * 19) (linkC 0)) 83 → Fr (fun k => k = gk) w w' → K (a.put o.dst (.slice (some ⟨gk, 0, none⟩) (N + 1) cap)) w') :
    if Region.wanted o (yielded ops a.tmps) = true then Oper.wp Try.prog o a w K Q else E := by
  refine step_append_blk hgd s x 70 hop 83 i0 19 Try.underlying70 hi0 hz1 gk N cap cur hs (hg.fr hW id) (some ⟨b, 0, none⟩) 1 1 (linkC 0) hx rfl (fun h => by cases h) ?_ (linkC_one 0) hroom (by rw [linkC_length]; omega) hK
  intro ad ha q u hu
  cases ha
  rw [Addr.add_lit, Nat.zero_add]
  exact hb.cell hu

theorem splice_end {xs rest ys : List Value} {o : Nat} (ho : xs.length = o) (hr : ys.length ≤ rest.length) : splice (xs ++ rest) o ys = (xs ++ ys) ++ rest.drop ys.length := by
  have := splice_mid xs (rest.take ys.length) (rest.drop ys.length) ys o ho (by rw [List.length_take]; omega)
  rw [List.take_append_drop] at this
  rw [this, List.append_assoc]

theorem ST.drewN {w : World} {B t : Nat} {pv kv : Value} {mb : Nat} {uv : Value} {un : Int} {ps ts : List Int} {rs : List (Int × Int)} {f : Int → Option Int} {m : Nat} (h : ST w B t pv kv mb uv un ps ts rs f m) (q : Nat) : ST (w.drewN q) B t pv kv mb uv un ps ts rs f m :=
  ⟨⟨h.tab.hdr.drewN q, h.tab.low, ownsRow_drewN h.tab.peers q, ownsRow_drewN h.tab.kept q⟩, ownsRow_drewN h.runs q, h.map.drewN q, h.lowm⟩

/-- What the two appends and the two stores leave. -/
theorem new_fin {B t gp gk N cap mb m : Nat} {uv : Value} {un j : Int} {ps ts : List Int} {rp rk : List Value} {rs : List (Int × Int)} {f : Int → Option Int} {w' w4 w5 w6 : World}
    (hBt : B ≤ t) (hBm : B ≤ mb) (hBp : B ≤ gp) (hBk : B ≤ gk) (hps : ps.length = N) (hts : ts.length = N) (hcap : N + 1 ≤ cap) (hcm : cap ≤ maxLen)
    (LP : (ints .i64 ps).length + rp.length = cap * 1) (LK : (links ts).length + rk.length = cap * 19)
    (hpt : gp ≠ t) (hkt : gk ≠ t) (hpk : gp ≠ gk) (hmt : mb ≠ t) (hmp : mb ≠ gp) (hmk : mb ≠ gk)
    (D4 : Blk w4 t [.slice (some ⟨gp, 0, none⟩) N cap, .slice (some ⟨gk, 0, none⟩) N cap, .map (some mb), uv, .int .i64 un, .map none] 74) (P4 : Blk w4 gp (ints .i64 ps ++ rp) 3) (K4 : Blk w4 gk (links ts ++ rk) 83)
    (I4 : IM w4 mb (m + 1) (upd f j N)) (U4 : w4.ownsRow B 68 2 uv rs.length (flat rs)) (b4 : Below B w' w4)
    (F5 : Fr (fun k => k = gp) w4 w5) (P5 : Blk w5 gp (splice (ints .i64 ps ++ rp) N [.int .i64 j]) 3) (F6 : Fr (fun k => k = gk) w5 w6) (K6 : Blk w6 gk (splice (links ts ++ rk) (N * 19) (linkC 0)) 83) :
    ST ((w6.setCell ⟨t, 0, none⟩ (.slice (some ⟨gp, 0, none⟩) (N + 1) cap)).setCell ⟨t, 1, none⟩ (.slice (some ⟨gk, 0, none⟩) (N + 1) cap)) B t (.slice (some ⟨gp, 0, none⟩) (N + 1) cap) (.slice (some ⟨gk, 0, none⟩) (N + 1) cap) mb uv un (ps ++ [j]) (ts ++ [0]) rs (upd f j N) (m + 1) ∧
      Below B w' ((w6.setCell ⟨t, 0, none⟩ (.slice (some ⟨gp, 0, none⟩) (N + 1) cap)).setCell ⟨t, 1, none⟩ (.slice (some ⟨gk, 0, none⟩) (N + 1) cap)) := by
  have FT := two_stores w6 t (.slice (some ⟨gp, 0, none⟩) (N + 1) cap) (.slice (some ⟨gk, 0, none⟩) (N + 1) cap)
  have D6 := (D4.fr F5 (fun h => hpt h.symm)).fr F6 (fun h => hkt h.symm)
  have P7 := (P5.fr F6 hpk).fr FT hpt
  have K7 := K6.fr FT hkt
  rw [ints_length] at LP
  rw [links_length] at LK
  rw [splice_end (by rw [ints_length, hps]) (by simp; omega)] at P7
  rw [splice_end (by rw [links_length, hts]) (by rw [linkC_length]; omega)] at K7
  have hu : ∀ g, uv.ownBlock = some g → g ≠ gp ∧ g ≠ gk ∧ g ≠ t := fun g hg => by
    rcases ownsRow_form U4 with ⟨rfl, _⟩ | ⟨g', c', rest, rfl, _, _, _, _, _, hblk⟩
    · simp [Value.ownBlock] at hg
    · simp [Value.ownBlock] at hg; subst hg
      exact ⟨hblk.ne_type P4 (by decide), hblk.ne_type K4 (by decide), hblk.ne_type D4 (by decide)⟩
  have hB4 : B ≤ w4.heap.size := by have := P4.lt; omega
  have hB5 : B ≤ w5.heap.size := Nat.le_trans hB4 F5.size
  have hB6 : B ≤ w6.heap.size := Nat.le_trans hB5 F6.size
  refine ⟨⟨⟨(D6.set 0 _).set 1 _, hBt, ?_, ?_⟩, ?_, ?_, hBm⟩, ?_⟩
  · have e : (ps ++ [j]).length = N + 1 := by simp [hps]
    rw [e, ints_append]
    exact ownsRow_mk hBp hcap hcm (by simp [ints, hps]) (by rw [List.length_append, ints_length, List.length_drop]; simp [ints]; omega) P7
  · have e : (ts ++ [0]).length = N + 1 := by simp [hts]
    have e2 : links (ts ++ [0]) = links ts ++ linkC 0 := by rw [links_append]; simp [links]
    rw [e, e2]
    exact ownsRow_mk hBk hcap hcm (by rw [List.length_append, links_length, linkC_length, hts]; omega) (by rw [List.length_append, links_length, List.length_drop, linkC_length]; omega) K7
  · exact ownsRow_fr (ownsRow_fr (ownsRow_fr U4 F5 (fun g hg => (hu g hg).1)) F6 (fun g hg => (hu g hg).2.1)) FT (fun g hg => (hu g hg).2.2)
  · exact ((I4.fr F5 hmp).fr F6 hmk).fr FT hmt
  · exact ((b4.trans (F5.below hB4 (by intro q hq; omega))).trans (F6.below hB5 (by intro q hq; omega))).trans (FT.below hB6 (by intro q hq; omega))

/-- get starts keeping the link to j, at zero, behind all that is kept. -/
def NewPost (B t : Nat) (mb : Nat) (uv : Value) (un : Int) (ps ts : List Int) (rs : List (Int × Int)) (f : Int → Option Int) (m : Nat) (j : Int) (w : World) (e : Ending) (w' : World) : Prop :=
  ∃ g pv' kv', e = .returned (.tuple #[.pointer (some ⟨g, ts.length * 19, none⟩), .bool true]) ∧ kv'.ownBlock = some g ∧ ST w' B t pv' kv' mb uv un (ps ++ [j]) (ts ++ [0]) rs (upd f j ts.length) (m + 1) ∧ Below B w w'

set_option maxHeartbeats 4000000 in
set_option maxRecDepth 100000 in
theorem get51_new (B t : Nat) (a b : Option Addr) (N : Nat) (mb : Nat) (uv : Value) (un : Int) (ps ts : List Int) (rs : List (Int × Int)) (f : Int → Option Int) (m : Nat) (j : Int) (w : World) (h : ST w B t (.slice a N N) (.slice b N N) mb uv un ps ts rs f m) (hp : ps.length = N) (ht : ts.length = N) (hN : N ≤ 500000) (hm : m ≤ 1000000) (hf : f j = none) (hin : ∃ q ∈ rs, q.1 ≤ j ∧ j < q.2) (hpw : Pw rs) (hlen : rs.length ≤ 100000000) (hj : Fits j) (hBw : B ≤ w.heap.size) :
    Calls Try.prog 51 #[.pointer (some ⟨t, 0, none⟩), .int .i64 j] w (NewPost B t mb uv un ps ts rs f m j w) := by
  have c2 := h.tab.hdr.cell (j := 2) rfl
  have hlook := h.map.look j hj
  rw [hf] at hlook
  simp only [Option.getD_none, Option.isSome_none] at hlook
  have HST := hid h
  have HIN := hid hin
  have HPS := hid hp
  have HTS := hid ht
  clear h hf hin hp ht
  go_enter Try.func51, Try.ntmps51
  go_wp2_with fail
  refine (sparse60 t (some mb) w c2).mono ?_
  rintro e w' ⟨rfl, rfl⟩
  go_wp2_with fail
  refine (has55 (hdrL (.slice a N N) (.slice b N N) (.map (some mb)) (.map none)) B t uv rs un j _ HST.out.rs hpw hlen).mono ?_
  rintro e w2 ⟨r, rfl, hr, hb2⟩
  obtain rfl : r = true := hr.2 HIN.out
  have HS2 := hid (HST.out.keep hb2)
  have d1 := HS2.out.tab.hdr.cell (j := 1) rfl
  have HB2 := hid hb2
  clear hr hlook c2 hb2
  go_wp2_with fail
  rw [show ((N : Int) / 2 + 1) = ((N / 2 + 1 : Nat) : Int) by omega]
  refine (makeRoom62 B t N (N / 2 + 1) a b (ints .i64 ps) (links ts) _ _ _ _ w2 HS2.out.tab.hdr (by have := HS2.out.tab.peers; rw [HPS.out] at this; exact this) (by have := HS2.out.tab.kept; rw [HTS.out] at this; exact this) (ints_one _ _) (links_one _) (by omega) (by omega)).mono ?_
  rintro e w3 ⟨rfl, gp, gk, rp, rk, hgp, hgk, hdr3, hlp, hlk, hbp, hbk, hfr3⟩
  have hmt := HS2.out.map.ne HS2.out.tab.hdr
  have HI3 := hid (HS2.out.map.fr hfr3 hmt)
  have hur : ∀ g, uv.ownBlock = some g → ∃ cs, Blk w2 g cs 68 := fun g hg => by
    rcases ownsRow_form HS2.out.runs with ⟨rfl, _⟩ | ⟨g', cap, rest, rfl, _, _, _, _, _, hblk⟩
    · simp [Value.ownBlock] at hg
    · simp [Value.ownBlock] at hg; subst hg; exact ⟨_, hblk⟩
  have HU3 := hid (ownsRow_fr HS2.out.runs hfr3 (fun g hg h => by obtain ⟨cs, hb⟩ := hur g hg; exact hb.ne_type HS2.out.tab.hdr (by decide) h))
  have HUR := hid hur
  obtain ⟨w4, hrun4, him4, hfr4⟩ := HI3.out.drew.put j N hj (fits_nat (by omega)) (by unfold maxLen; omega)
  have hmt3 := HI3.out.ne hdr3
  have hmp3 := HI3.out.ne hbp
  have hmk3 := HI3.out.ne hbk
  have hpt := hbp.ne_type hdr3 (by decide)
  have hkt := hbk.ne_type hdr3 (by decide)
  have hpk := hbp.ne_type hbk (by decide)
  have HD4 := hid (hdr3.drew.fr hfr4 (fun h => hmt3 h.symm))
  have HP4 := hid (hbp.drew.fr hfr4 (fun h => hmp3 h.symm))
  have HK4 := hid (hbk.drew.fr hfr4 (fun h => hmk3 h.symm))
  have HI4 := hid him4
  have HU4 := hid (ownsRow_fr (World.ownsRow.drew HU3.out) hfr4 (fun g hg h => by
    rcases ownsRow_form HU3.out with ⟨rfl, _⟩ | ⟨g', cap, rest, rfl, _, _, _, _, _, hblk⟩
    · simp [Value.ownBlock] at hg
    · simp [Value.ownBlock] at hg; subst hg; exact HI3.out.ne hblk h.symm))
  have t0 := hdr3.cell (j := 0) rfl
  have t2 := hdr3.cell (j := 2) rfl
  have p0 := HD4.out.cell (j := 0) rfl
  have p1 := HD4.out.cell (j := 1) rfl
  have f0 := HD4.out.free 0
  have f1 := HD4.out.free 1
  have LP := hid hlp
  have LK := hid hlk
  have GP := hid hgp
  have GK := hid hgk
  have F3 := hid hfr3
  have F4 := hid hfr4
  clear hur him4 hfr4 hfr3 hdr3 hbp hbk hlp hlk hgp hgk d1 HI3 HU3
  go_wp2
  go_region
  clear hrun4 t0 t2
  have hT4 : t < w4.heap.size := HD4.out.lt
  have hP4 : gp < w4.heap.size := HP4.out.lt
  have hK4 : gk < w4.heap.size := HK4.out.lt
  have hM4 : mb < w4.heap.size := HI4.out.lt
  obtain ⟨i3, hi3, _, hz3, _⟩ := info_parts info3
  obtain ⟨i8, hi8, _, hz8, _⟩ := info_parts info83
  have FP : Hid (N + 1 ≤ (ints .i64 ps ++ rp).length) := by show _ ≤ _; have := LP.out; rw [List.length_append]; omega
  have FK : Hid ((N + 1) * 19 ≤ (links ts ++ rk).length) := by show _ ≤ _; have := LK.out; rw [List.length_append]; omega
  have I3 := hid hi3
  have Z3 := hid hz3
  have I8 := hid hi8
  have Z8 := hid hz8
  have HLT := hid HST.out.tab.low
  have HLM := hid HST.out.lowm
  have hBp : Hid (B ≤ gp) := Nat.le_trans hBw (Nat.le_trans HB2.out.size GP.out)
  have hBk : Hid (B ≤ gk) := Nat.le_trans hBw (Nat.le_trans HB2.out.size GK.out)
  have B4 : Hid (Below B w' w4) := by
    have h2 : B ≤ w2.heap.size := Nat.le_trans hBw HB2.out.size
    have b2 : Below B w' w2 := HB2.out.mono hBw
    have b3 : Below B w2 w3 := F3.out.below h2 (by intro q hq; have := HLT.out; omega)
    exact (b2.trans b3).trans ((Below.refl B w3).drew.trans (F4.out.below (Nat.le_trans h2 b3.size) (by intro q hq; have := HLM.out; omega)))
  clear hi3 hz3 hi8 hz8 HS2 HST HUR
  go_upto_region 15 with fail
  go_cut [] from 80 (fun wx => Hid (ST wx B t (.slice (some ⟨gp, 0, none⟩) (N + 1) (N + (N / 2 + 1))) (.slice (some ⟨gk, 0, none⟩) (N + 1) (N + (N / 2 + 1))) mb uv un (ps ++ [j]) (ts ++ [0]) rs (upd f j N) (m + 1)) ∧ Hid (Below B w' wx))
  case first =>
    go_region_law
      (first
        | (refine stepP i3 I3.out Z3.out rfl (.tmp 85) (.tmp 87) rfl gp N (N + (N / 2 + 1)) (ints .i64 ps ++ rp) rfl _ j rfl w4 (by first | exact (Fr.refl _ w4).drew | exact ((Fr.refl _ w4).alloc _).drew | exact (((Fr.refl _ w4).alloc _).alloc _).drew) HP4.out (by first | exact Blk.new w4 [.int .i64 j] 3 | exact (Blk.new w4 [.int .i64 j] 3).alloc _ | exact Blk.new2 w4 _ [.int .i64 j] 3) (by omega) FP.out ?_
           intro w5 hb5 hf5
           go_must (
             have P5 := hid hb5
             have F5 : Hid (Fr (fun k => k = gp) w4 w5) := Fr.trans (by first | exact (Fr.refl _ w4).drew | exact ((Fr.refl _ w4).alloc _).drew | exact (((Fr.refl _ w4).alloc _).alloc _).drew) hf5
             have D5 := hid (HD4.out.fr F5.out (fun h => hpt h.symm))
             have K5 := hid (HK4.out.fr F5.out (fun h => hpk h.symm))
             have d50 := D5.out.cell (j := 0) rfl
             have d51 := D5.out.cell (j := 1) rfl
             have hT5 : t < w5.heap.size := D5.out.lt
             first
               | (have S5 : Hid (Blk w5 w4.heap.size (linkC 0) 83) := Blk.fr (by exact (Blk.new w4 (linkC 0) 83).alloc _) hf5 (by omega))
               | (have S5 : Hid (Blk w5 (w4.heap.size + 1) (linkC 0) 83) := Blk.fr (by exact Blk.new2 w4 _ (linkC 0) 83) hf5 (by omega))
               | skip
             clear hb5 hf5))
        | (refine stepK i8 I8.out Z8.out rfl (.tmp 92) (.tmp 94) rfl gk N (N + (N / 2 + 1)) (links ts ++ rk) rfl _ rfl w5 (by first | exact Fr.refl _ w5 | exact (Fr.refl _ w5).alloc _) K5.out (by first | exact S5.out | exact Blk.new w5 (linkC 0) 83) (by omega) FK.out ?_
           intro w6 hb6 hf6
           go_must (
             have K6 := hid hb6
             have F6 : Hid (Fr (fun k => k = gk) w5 w6) := Fr.trans (by first | exact Fr.refl _ w5 | exact (Fr.refl _ w5).alloc _) hf6
             have D6 := hid (D5.out.fr F6.out (fun h => hkt h.symm))
             have P6 := hid (P5.out.fr F6.out hpk)
             have d60 := D6.out.cell (j := 0) rfl
             have d61 := D6.out.cell (j := 1) rfl
             have g60 := D6.out.free 0
             have g61 := D6.out.free 1
             clear hb6 hf6)))
    all_goals
      go_wp2_with fail
      go_meet
      exact ⟨(new_fin HLT.out HLM.out hBp.out hBk.out HPS.out HTS.out (by omega) (by unfold maxLen; omega) LP.out LK.out hpt hkt hpk hmt hmp3 hmk3 HD4.out HP4.out HK4.out HI4.out HU4.out B4.out F5.out P5.out F6.out K6.out).1, (new_fin HLT.out HLM.out hBp.out hBk.out HPS.out HTS.out (by omega) (by unfold maxLen; omega) LP.out LK.out hpt hkt hpk hmt hmp3 hmk3 HD4.out HP4.out HK4.out HI4.out HU4.out B4.out F5.out P5.out F6.out K6.out).2⟩
  case rest =>
    obtain ⟨HS, HB⟩ := hcut
    have e1 := HS.out.tab.hdr.cell (j := 1) rfl
    clear p0 p1 f0 f1
    go_wp2
    go_quiet (fail)
    go_wp2
    go_ret2
    exact ⟨gk, _, _, by rw [HTS.out]; rfl, rfl, by rw [HTS.out]; exact HS.out.drewN _, below_drewN HB.out _⟩

end Go.Proofs.Qxb6600404a
