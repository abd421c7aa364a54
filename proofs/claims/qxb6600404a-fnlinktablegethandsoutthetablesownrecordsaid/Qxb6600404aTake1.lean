/-
  Seat b6600404a: takeDown on a dense table (the struct result lies in memory; slices.Delete on both rows).
-/
import Derived.Test.Qxb6600404aTopC
import Derived.Laws.ResultCell
namespace Go.Proofs.Qxb6600404a
open Go.RowKit
set_option linter.unusedVariables false
set_option linter.unusedSimpArgs false

theorem built83 : Try.prog.built 83 [] = some (linkC 0).toArray := by kernel_rfl

/-- 'link{}' as a value of which the walk sees no cell. -/
theorem wpList_build83 {ops : Array Oper} {rest : List Oper} {o : Oper} {a : Act} {w : World} {Q : Exit → Act → World → Prop} (hg : o.guard = none) (ho : o.op = .build 83 #[]) (zz : List Value) (hz : zz = linkC 0)
    (h : wpList Try.prog ops Q rest (a.put o.dst (.agg zz.toArray)) w) : wpList Try.prog ops Q (o :: rest) a w := by
  have hb : Try.prog.built 83 ((#[] : Array (Nat × Operand)).map fun (i, x) => (i, a.eval x)).toList = some (linkC 0).toArray := by simpa using built83
  refine wpList_build hg 83 #[] ho ?_ ?_
  · rw [hb]; rfl
  · rw [hb, ← hz]; exact h

/-- A struct goes into a block of its own that is not the last. -/
theorem storeOld83 {cs old : List Value} (h : cs.length = 19) (h1 : ∀ u ∈ cs, u.oneCell' = true) {w : World} {g : Nat} (hb : Blk w g old 83) (ho : old.length = 19) : (storeCells ⟨g, 0, none⟩ cs 0).run Try.prog w = .ok () (w.setRow g cs.toArray) := by
  have := run_storeVar_row (P := Try.prog) w g 83 83 old.toArray cs.toArray hb (size83a h) (by simp [h, ho]) (all_oneCell_toArray h1)
  cases hq : Try.prog.info? 83 with
  | none => have := size83a h; simp [hq] at this
  | some i =>
    have hs : cs.length = i.size := by have := size83a h; simp [hq] at this; omega
    simpa [storeVar, sizeOf, typeInfo, hq, Value.cells, hs] using this

/-- The two results of takeDown: the struct out of its block, the bool out of its slot. -/
theorem ret52 {tmps : Array Value} {w : World} {R : Nat} {cs : List Value} {b : Bool} (h4 : tmps.getD 4 undef = .pointer (some ⟨R, 0, none⟩)) (h5 : tmps.getD 5 undef = .bool b) (hb : Blk w R cs 83) (hcs : cs.length = 19) : (results Try.f52 tmps).run Try.prog w = .ok (.tuple #[.agg cs.toArray, .bool b]) w := by
  obtain ⟨d, hu, hd⟩ := row83
  rw [results_cell_tmp Try.results52, h4, h5]
  have := run_loadVar_mid (P := Try.prog) w R 0 83 cs d (fun j v hv => by rw [Nat.zero_add]; exact hb.cell hv) hu hd (size83 hcs)
  simp [asAddr, Result.andThen, this]

theorem Blk.ne_type {w : World} {g g' : Nat} {cs cs' : List Value} {t t' : TypeId} (h : Blk w g cs t) (h' : Blk w g' cs' t') (ht : t ≠ t') : g ≠ g' := by
  intro e
  subst e
  have := h.symm.trans h'
  simp at this
  exact ht this.2

theorem links_wo (k : Nat) (ts : List Int) : (links ts).take (k * 19) ++ (links ts).drop ((k + 1) * 19) = links (ts.take k ++ ts.drop (k + 1)) := by rw [links_take, links_drop, links_append]
theorem ints_wo (k : Nat) (ts : List Int) : (ints .i64 ts).take (k * 1) ++ (ints .i64 ts).drop ((k + 1) * 1) = ints .i64 (ts.take k ++ ts.drop (k + 1)) := by rw [Nat.mul_one, Nat.mul_one, ints_take, ints_drop, ints_append]

def wo (k : Nat) (l : List Int) : List Int := l.take k ++ l.drop (k + 1)

theorem two_stores (w : World) (t : Nat) (v1 v2 : Value) : Fr (fun k => k = t) w ((w.setCell ⟨t, 0, none⟩ v1).setCell ⟨t, 1, none⟩ v2) :=
  Fr.setCell (p := ⟨t, 1, none⟩) (Fr.setCell (p := ⟨t, 0, none⟩) (Fr.refl (fun k => k = t) w) v1 (fun _ => rfl)) v2 (fun _ => rfl)
theorem row_store (w : World) (R : Nat) (cs : Array Value) : Fr (fun k => k = R) w (w.setRow R cs) := Fr.setRow (Fr.refl (fun k => k = R) w) cs (fun _ => rfl)

theorem wo_length {k : Nat} {l : List Int} (h : k < l.length) : (wo k l).length = l.length - 1 := by
  unfold wo; rw [List.length_append, List.length_take, List.length_drop]; omega

/-- What takeDown comes to on a dense table. -/
def TakePost (B t : Nat) (uv un av : Value) (ps ts : List Int) (j : Int) (w : World) (e : Ending) (w' : World) : Prop :=
  (∃ (k : Nat) (x : Int) (pv' kv' : Value), ps[k]? = some j ∧ ts[k]? = some x ∧ e = .returned (.tuple #[.agg (linkC x).toArray, .bool true]) ∧ LT w' B t pv' kv' (.map none) uv un av (wo k ps) (wo k ts) ∧ Below B w w') ∨
  (e = .returned (.tuple #[.agg (linkC 0).toArray, .bool false]) ∧ (∀ k : Nat, ps[k]? ≠ some j) ∧ Below w.heap.size w w')

/-- BinarySearch's word, said of the whole list. -/
theorem bs_none {ps : List Int} {n k : Nat} {j : Int} (hs : SAscTo ps n) (hl : ps.length = n) (hx : ∀ (t : Nat) (x : Int), ps[t]? = some x → (t < k ↔ x < j)) (ho : ¬ ps[k]? = some j) (i : Nat) : ps[i]? ≠ some j := by
  intro e
  by_cases hik : i = k
  · subst hik; exact ho e
  · rcases Nat.lt_or_ge i k with h1 | h1
    · have := (hx i j e).1 h1; omega
    · have hkl : k < ps.length := by have := (List.getElem?_eq_some_iff.1 e).1; omega
      have h2 := List.getElem?_eq_getElem hkl
      have h3 : ¬ ps[k] < j := fun h => by have := (hx k _ h2).2 h; omega
      have h4 := sasc_mono hs (show k < i by omega) (by have := (List.getElem?_eq_some_iff.1 e).1; omega) h2 e
      omega

set_option maxHeartbeats 2000000 in
set_option maxRecDepth 100000 in
theorem takeDown52_dense (B t : Nat) (pv kv uv un av : Value) (ps ts : List Int) (j : Int) (w : World) (h : LT w B t pv kv (.map none) uv un av ps ts) (hl : ps.length = ts.length) (hn : ps.length ≤ 100000000) (hs : SAscTo ps ps.length) (hBw : B ≤ w.heap.size) :
    Calls Try.prog 52 #[.pointer (some ⟨t, 0, none⟩), .int .i64 j] w (TakePost B t uv un av ps ts j w) := by
  have hb0 : Below w.heap.size w (w.alloc (.cells (linkC 0).toArray 83)) := (Below.refl _ _).alloc (Nat.le_refl _) _
  have HW : Hid (LT (w.alloc (.cells (linkC 0).toArray 83)) B t pv kv (.map none) uv un av ps ts) := h.keep hb0
  have HR : Hid (Blk (w.alloc (.cells (linkC 0).toArray 83)) w.heap.size (linkC 0) 83) := Blk.new w (linkC 0) 83
  have HSZ : Hid ((w.alloc (.cells (linkC 0).toArray 83)).heap.size = w.heap.size + 1) := by show _ = _; simp
  have HBW := hid hb0
  obtain ⟨W, hW⟩ : ∃ W, W = w.alloc (.cells (linkC 0).toArray 83) := ⟨_, rfl⟩
  rw [← hW] at HW HR HSZ HBW
  have c0 := HW.out.hdr.cell (j := 0) rfl
  have c1 := HW.out.hdr.cell (j := 1) rfl
  have c2 := HW.out.hdr.cell (j := 2) rfl
  obtain ⟨ap, cp, rfl, hrow, _, _⟩ := row_owned HW.out.peers
  generalize hN : ps.length = N at hl hn hs hrow c0
  have HN := hid hN
  have HL := hid hl
  have hN2 : N ≤ 1000000000 := by omega
  have HTR := hid h.hdr.lt
  have HLOW := hid h.low
  have HPR := hid (fun g hg => (h.peers.lt g hg).2)
  have HKR := hid (fun g hg => (h.kept.lt g hg).2)
  clear hN h hb0 hl
  go_enter Try.func52, Try.ntmps52
  go_wp2_with fail
  have hW2 : w.alloc (.cells #[.float .f64 0, .float .f64 0, .float .f64 0, .float .f64 0, .float .f64 0, .float .f64 0, .float .f64 0, .float .f64 0, .float .f64 0, .float .f64 0, .int .u32 0, .int .u8 0, .int .u8 0, .int .u8 0, .int .u8 0, .int .u8 0, .int .u8 0, .bool false, .bool false] 83) = W := hW.symm
  rw [hW2]
  clear hW hW2
  generalize hRR : w.heap.size = R at HR HSZ HBW hBw HTR HPR HKR ⊢
  have HRR := hid hRR
  clear hRR
  refine (sparse60 t none W c2).mono ?_
  rintro e w' ⟨rfl, rfl⟩
  go_wp2_with fail
  refine (bsearch61 ap N cp ps j _ hrow hN2 hs).mono ?_
  rintro e w' ⟨k, ok, rfl, hk, hX, hO, hw⟩
  have hw2 := hw.symm; subst hw2
  cases ok with
  | false =>
    have HNO := hid (bs_none hs HN.out hX (fun h => by have := hO.2 h; cases this))
    clear hO hX hw hs
    obtain ⟨zz, hzz⟩ : ∃ zz, zz = linkC 0 := ⟨_, rfl⟩
    have hst : (storeCells ⟨R, 0, none⟩ zz 0).run Try.prog w' = .ok () (w'.setRow R zz.toArray) := by rw [hzz]; exact storeOld83 (linkC_length 0) (linkC_one 0) HR.out (linkC_length 0)
    have hlz : zz.length = 19 := by rw [hzz]; rfl
    have HZ := hid hzz
    clear hzz
    go_wp2_with (refine wpList_build83 rfl rfl zz HZ.out ?_)
    go_wp2
    refine bodyPost_ret (v := .tuple #[.agg (linkC 0).toArray, .bool false]) (ret52 rfl rfl (by rw [← HZ.out]; exact HR.out.setRow zz) (linkC_length 0)) rfl ?_
    exact .inr ⟨rfl, HNO.out, by rw [HRR.out]; exact below_setRow HBW.out (Nat.le_refl _) _⟩
  | true =>
    have HJ := hid (hO.1 rfl)
    have hkl : k < N := by have := (List.getElem?_eq_some_iff.1 HJ.out).1; rw [HN.out] at this; exact this
    obtain ⟨x, hx⟩ : ∃ x, ts[k]? = some x := ⟨_, List.getElem?_eq_getElem (by have := HL.out; omega)⟩
    have HX := hid hx
    rcases ownsRow_form HW.out.peers with ⟨_, h0, _⟩ | ⟨gp, capp, restp, hv, hgp, hncp, hcmp, hlp1, hlp2, hblkp⟩
    · exact absurd h0 (by rw [HN.out]; omega)
    simp only [Value.slice.injEq, true_and] at hv
    obtain ⟨rfl, rfl⟩ := hv
    obtain ⟨gk, capk, restk, rfl, hgk, hnck, hcmk, hlk2, hblkk⟩ := HW.out.keptAt (k := k) (by rw [← HL.out]; exact hkl)
    have hhdr := HW.out.hdr
    rw [HN.out, ← HL.out] at hhdr
    rw [HN.out] at hncp
    rw [← HL.out] at hnck c1
    have hgpR := HPR.out gp rfl
    have hgkR := HKR.out gk rfl
    have htR := HTR.out
    have hpk := hblkp.ne_type hblkk (by decide)
    have hpt := hblkp.ne_type hhdr (by decide)
    have hkt := hblkk.ne_type hhdr (by decide)
    have hr : w'.rangeAt gk (k * 19) (linkC x) := fun j v hv => hblkk.link hx hv
    have HC19 := hid (linkC_length x)
    have HC1 := hid (linkC_one x)
    obtain ⟨cs, hcs⟩ : ∃ cs, cs = linkC x := ⟨_, rfl⟩
    rw [← hcs] at hr HC19 HC1
    have HCS := hid hcs
    obtain ⟨d, hu, hd⟩ := row83
    have HU := hid hu
    have HSS := hid (size83 HC19.out)
    have hst : ∀ c : Array Value, c.size = 19 → (storeCells ⟨R + 1, 0, none⟩ cs 0).run Try.prog (w'.alloc (.cells c 83)) = .ok () (w'.alloc (.cells cs.toArray 83)) := fun c hc => by
      have := storeNew83 HC19.out HC1.out w' c hc
      rw [HSZ.out] at this
      exact this
    have hlz : cs.length = 19 := HC19.out
    have h1 : Blk (w'.alloc (.cells cs.toArray 83)) t _ 74 := hhdr.alloc _
    have h2 : Blk (w'.alloc (.cells cs.toArray 83)) gp _ 3 := hblkp.alloc _
    have h3 : Blk (w'.alloc (.cells cs.toArray 83)) gk _ 83 := hblkk.alloc _
    have h4 : Blk (w'.alloc (.cells cs.toArray 83)) R _ 83 := HR.out.alloc _
    have h5 : Blk (w'.alloc (.cells cs.toArray 83)) (R + 1) cs 83 := by rw [← HSZ.out]; exact Blk.new w' cs 83
    have h6 : Below R w (w'.alloc (.cells cs.toArray 83)) := HBW.out.alloc (by rw [HSZ.out]; omega) _
    have hsz' : w'.heap.size = R + 1 := HSZ.out
    have G1 := hid h1
    have G2 := hid h2
    have G3 := hid h3
    have G4 := hid h4
    have G5 := hid h5
    have G6 := hid h6
    have HHX := hid hx
    clear hO hX hs hw hu hcs hblkp hblkk hhdr h1 h2 h3 h4 h5 h6 hx HW
    go_wp2_with (refine wpList_load_mid rfl 83 _ rfl gk (k * 19) rfl cs d hr HU.out hd HSS.out ?_)
    go_wp2_with fail
    generalize w'.alloc (.cells cs.toArray 83) = W1 at G1 G2 G3 G4 G5 G6 ⊢
    clear hst hsz' hr c0 c1 c2 hrow HR HSZ HBW
    have p0 := G1.out.cell (j := 0) rfl
    have p1 := G1.out.cell (j := 1) rfl
    have f0 := G1.out.free 0
    have f1 := G1.out.free 1
    have hwk : IntKind.i64.wrap ((k : Int) + 1) = (k : Int) + 1 := by rw [IntKind.wrap_i64]; omega
    have A1 := hid hlp2
    have A2 := hid hlk2
    have A3 := hid hcmp
    have A4 := hid hcmk
    have A5 := hid HPR
    clear hlp1 hlp2 hlk2 hcmp hcmk hk HPR HKR
    go_region_with
      (first
        | (go_at_call 63; refine (delete63 B gp N cp k (ints .i64 ps) restp _ hgp hkl hncp A3.out (by rw [ints_length, HN.out]; omega) A1.out (by exact G2.out) (ints_one _ _)).mono ?_; rintro e w3 ⟨rfl, hown3, hf3⟩; go_must (
            have T1 := hid (G1.out.drew.fr hf3 (fun h => hpt h.symm))
            have T3 := hid (G3.out.drew.fr hf3 (fun h => hpk h.symm))
            have T4 := hid (G4.out.drew.fr hf3 (by omega))
            have T5 := hid (G5.out.drew.fr hf3 (by omega))
            have t0 := T1.out.cell (j := 0) rfl
            have t1 := T1.out.cell (j := 1) rfl
            have O3 := hid hown3
            have F3 := hid hf3
            clear hown3 hf3))
        | (go_at_call 64; refine (delete64 B gk N capk k (links ts) restk _ hgk hkl hnck A4.out (by rw [links_length, ← HL.out]) A2.out (by exact T3.out) (links_one _)).mono ?_; rintro e w4 ⟨rfl, hown4, hf4⟩; go_must (
            have S1 := hid (T1.out.fr hf4 (fun h => hkt h.symm))
            have S4 := hid (T4.out.fr hf4 (by omega))
            have S5 := hid (T5.out.fr hf4 (by omega))
            have s0 := S1.out.cell (j := 0) rfl
            have s1 := S1.out.cell (j := 1) rfl
            have g0 := S1.out.free 0
            have g1 := S1.out.free 1
            have O4 := hid hown4
            have F4 := hid hf4
            clear hown4 hf4)))
    all_goals
      have hkT : k < ts.length := by rw [← HL.out]; exact hkl
      have hkP : k < ps.length := by rw [HN.out]; exact hkl
      have E1 := hid ((S1.out.set 0 (.slice (some ⟨gp, 0, none⟩) (N - 1) cp)).set 1 (.slice (some ⟨gk, 0, none⟩) (N - 1) capk))
      have E4 := hid ((S4.out.other (a := ⟨t, 0, none⟩) (.slice (some ⟨gp, 0, none⟩) (N - 1) cp) (by show _ ≠ t; omega)).other (a := ⟨t, 1, none⟩) (.slice (some ⟨gk, 0, none⟩) (N - 1) capk) (by show _ ≠ t; omega))
      have E5 := hid ((S5.out.other (a := ⟨t, 0, none⟩) (.slice (some ⟨gp, 0, none⟩) (N - 1) cp) (by show _ ≠ t; omega)).other (a := ⟨t, 1, none⟩) (.slice (some ⟨gk, 0, none⟩) (N - 1) capk) (by show _ ≠ t; omega))
      have FT : Hid (Fr (fun k => k = t) w4 ((w4.setCell ⟨t, 0, none⟩ (.slice (some ⟨gp, 0, none⟩) (N - 1) cp)).setCell ⟨t, 1, none⟩ (.slice (some ⟨gk, 0, none⟩) (N - 1) capk))) := two_stores _ _ _ _
      have E2 := hid (ownsRow_fr (ownsRow_fr O3.out F4.out (fun g hg h => by simp [Value.ownBlock] at hg; omega)) FT.out (fun g hg h => by simp [Value.ownBlock] at hg; omega))
      have E3 := hid (ownsRow_fr O4.out FT.out (fun g hg h => by simp [Value.ownBlock] at hg; omega))
      have e2 := E2.out
      have e3 := E3.out
      rw [ints_wo] at e2
      rw [links_wo] at e3
      have D2 := hid e2
      have D3 := hid e3
      have hBR : B ≤ W1.heap.size := Nat.le_trans hBw (by have := G4.out.lt; omega)
      have b3 : Below B W1 w3 := (Below.refl B W1).drew.trans (F3.out.below (by exact hBR) (by intro q hq; omega))
      have b4 : Below B w3 w4 := F4.out.below (Nat.le_trans hBR b3.size) (by intro q hq; omega)
      have E6 : Hid (Below B w ((w4.setCell ⟨t, 0, none⟩ (.slice (some ⟨gp, 0, none⟩) (N - 1) cp)).setCell ⟨t, 1, none⟩ (.slice (some ⟨gk, 0, none⟩) (N - 1) capk))) := (((G6.out.mono hBw).trans b3).trans b4).trans (FT.out.below (Nat.le_trans (Nat.le_trans hBR b3.size) b4.size) (by intro q hq; have := HLOW.out; omega))
      clear E2 E3 e2 e3 b3 b4 FT O3 O4 F3 F4 S1 S4 S5 T1 T3 T4 T5 t0 t1 s0 s1 g0 g1 p0 p1 f0 f1 G1 G2 G3 G4 G5 G6
      generalize (w4.setCell ⟨t, 0, none⟩ (.slice (some ⟨gp, 0, none⟩) (N - 1) cp)).setCell ⟨t, 1, none⟩ (.slice (some ⟨gk, 0, none⟩) (N - 1) capk) = W5 at E1 E4 E5 E6 D2 D3 ⊢
      have hr5 : W5.rangeAt (R + 1) 0 cs := fun j v hv => by rw [Nat.zero_add]; exact E5.out.cell hv
      have hst5 := storeOld83 HC19.out HC1.out E4.out (linkC_length 0)
      go_wp2_with (refine wpList_load_mid rfl 83 _ rfl (R + 1) 0 rfl cs d hr5 HU.out hd HSS.out ?_)
      go_wp2
      refine bodyPost_ret (v := .tuple #[.agg cs.toArray, .bool true]) (ret52 rfl rfl (E4.out.setRow cs) HC19.out) rfl ?_
      have FR : Fr (fun k => k = R) W5 (W5.setRow R cs.toArray) := row_store _ _ _
      refine .inl ⟨k, x, _, _, HJ.out, HX.out, by rw [HCS.out], ⟨E1.out.fr FR (by omega), HLOW.out, by rw [wo_length hkP, HN.out]; exact ownsRow_fr D2.out FR (fun g hg h => by simp [Value.ownBlock] at hg; omega), by rw [wo_length hkT, ← HL.out]; exact ownsRow_fr D3.out FR (fun g hg h => by simp [Value.ownBlock] at hg; omega)⟩, below_setRow E6.out hBw _⟩

end Go.Proofs.Qxb6600404a
