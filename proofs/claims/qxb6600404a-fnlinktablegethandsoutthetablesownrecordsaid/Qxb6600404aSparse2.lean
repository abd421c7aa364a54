/-
  Seat b6600404a: ZZLinkTableSparse: the sparse table in memory.
-/
import Derived.Test.Qxb6600404aTake1
import Derived.Test.Qxb6600404aSparse1
import Derived.Test.Qxb6600404aMap1
import Derived.Test.Qxb6600404aSets
namespace Go.Proofs.Qxb6600404a
open Go.RowKit
set_option linter.unusedVariables false
set_option linter.unusedSimpArgs false

/-- ZZLinkTableDense, and that what it keeps has no spare room. -/
def DensePostC (pv : Value) (ts : List Int) (w : World) (e : Ending) (w' : World) : Prop :=
  e = .returned (.pointer (some ⟨w.heap.size, 0, none⟩)) ∧ (∃ kv, Blk w' w.heap.size [pv, kv, .map none, .slice none 0 0, .int .i64 0, .map none] 74 ∧ w'.ownsRow w.heap.size 83 19 kv ts.length (links ts) ∧ ∀ a n c, kv = .slice a n c → n = c) ∧ Below w.heap.size w w'

set_option maxHeartbeats 1000000 in
set_option maxRecDepth 100000 in
theorem dense20c_pos (ap : Option Addr) (np cp : Nat) (a0 : Option Addr) (n0 c0 : Nat) (ts : List Int) (w : World) (h0 : Row .u8 w a0 n0 ts) (hn0 : n0 ≤ 10000000) (hpos : 0 < n0) :
    Calls Try.prog 20 #[.slice ap np cp, .slice a0 n0 c0] w (DensePostC (.slice ap np cp) ts w) := by
  obtain ⟨i0, hi0, hz0, hz1, hz2⟩ := info_parts info83
  generalize hzz : linkC 0 = zz at hz0
  have HZ := hid hzz
  clear hzz
  have HLN := hid h0.len
  go_enter Try.func20, Try.ntmps20
  go_wp2_with (at_make; refine wpList_make_full _ rfl _ _ 70 rfl w.heap.size 83 i0 (.agg zz.toArray) 19 Try.underlying70 hi0 hz0 hz1 _ _ _ _ n0 rfl rfl rfl rfl (by rw [hz2]; omega) (by unfold maxLen; omega) (by simp) ?_)
  intro w1 hown hgrow
  have hb1 : Below w.heap.size w w1 := ((Below.refl _ _).alloc (Nat.le_refl _) _).grown hgrow (by simp) (by simp)
  have hs1 : Blk w1 w.heap.size [.slice ap np cp, .slice none 0 0, .map none, .slice none 0 0, .int .i64 0, .map none] 74 := (Blk.new w [.slice ap np cp, .slice none 0 0, .map none, .slice none 0 0, .int .i64 0, .map none] 74).grown hgrow (by simp)
  have hblk1 : Blk w1 (w.heap.size + 1) (links (List.replicate n0 0)) 83 := by
    have := HZ.out; subst this
    exact made_links hown
  have e0 := hs1.cell (j := 1) rfl
  have f0 := hs1.free 1
  clear hown hgrow hi0 hz0 hz1 hz2
  go_wp2
  go_loopw [6] (fun i wr => ∃ k, k ≤ n0 ∧ i = .int .i64 k ∧ Blk wr w.heap.size [.slice ap np cp, .slice (some ⟨w.heap.size + 1, 0, none⟩) n0 n0, .map none, .slice none 0 0, .int .i64 0, .map none] 74 ∧ Blk wr (w.heap.size + 1) (links (ts.take k ++ List.replicate (n0 - k) 0)) 83 ∧ Below w.heap.size w wr) (fun i _ => n0 - (intOf i).toNat)
  case atStart => exact ⟨0, Nat.zero_le _, rfl, hs1.set 1 _, by simpa using hblk1.other (a := ⟨w.heap.size, 1, none⟩) (.slice (some ⟨w.heap.size + 1, 0, none⟩) n0 n0) (by simp), hb1.setCell (by simp) _⟩
  case round =>
    obtain ⟨k, hk, rfl, hs, hg, hb⟩ := hrel
    clear hs1 hblk1 hb1 e0 f0
    have e0 := hs.cell (j := 1) rfl
    by_cases hlt : k < n0
    · obtain ⟨b, off, x, rfl, x0, HX⟩ := (h0.keep hb).at k hlt
      have HT : Hid ((ts.take k ++ List.replicate (n0 - k) 0).set k x = ts.take (k + 1) ++ List.replicate (n0 - (k + 1)) 0) := by
        show _ = _
        have hl := HLN.out
        rw [take_snoc HX.out, List.set_append_right _ _ (by simp; omega), show n0 - k = (n0 - (k + 1)) + 1 by omega, List.replicate_succ, show k - (ts.take k).length = 0 by simp; omega, List.set_cons_zero]
        simp
      have HK : Hid ((ts.take k ++ List.replicate (n0 - k) (0 : Int))[k]? = some 0) := by
        show _ = _
        have hl := HLN.out
        rw [List.getElem?_append_right (by simp; omega), show k - (ts.take k).length = 0 by simp; omega, show n0 - k = (n0 - (k + 1)) + 1 by omega, List.replicate_succ]; rfl
      have k0 : (wr.cell? ⟨w.heap.size + 1, k * 19 + 13, none⟩) = some (.int .u8 0) := Blk.link (rest := []) (by rw [List.append_nil]; exact hg) HK.out rfl
      have g0 := hg.free (k * 19 + 13)
      have HG : Hid (Blk (wr.setCell ⟨w.heap.size + 1, k * 19 + 13, none⟩ (.int .u8 x)) (w.heap.size + 1) (links (ts.take (k + 1) ++ List.replicate (n0 - (k + 1)) 0)) 83) := by
        have := hg.set (k * 19 + 13) (.int .u8 x)
        rw [links_set _ _ _ (by have := HLN.out; simp; omega), HT.out] at this
        exact this
      have HS := hid (hs.other (a := ⟨w.heap.size + 1, k * 19 + 13, none⟩) (.int .u8 x) (by simp))
      clear hg hs
      go_wp2
      go_region
      go_wp2
      go_roundw
      case rel => exact ⟨k + 1, by omega, by go_num, HS.out, HG.out, (hb.setCell (by simp) _).drew⟩
      case measure => simp [intOf]; omega
    · go_wp2
      go_ret
      obtain rfl : k = n0 := by omega
      have hl := HLN.out
      rw [List.take_of_length_le (by omega), Nat.sub_self, List.replicate_zero, List.append_nil] at hg
      refine ⟨rfl, ⟨_, hs, ?_, fun a n c e => by cases e; rfl⟩, hb⟩
      rw [hl]
      exact ownsRow_mk (rest := []) (by omega) (Nat.le_refl _) (by unfold maxLen; omega) (by rw [links_length, hl]) (by rw [links_length, hl]; simp) (by rw [List.append_nil]; exact hg)

set_option maxHeartbeats 1000000 in
set_option maxRecDepth 100000 in
theorem dense20c (ap : Option Addr) (np cp : Nat) (a0 : Option Addr) (n0 c0 : Nat) (ts : List Int) (w : World) (h0 : Row .u8 w a0 n0 ts) (hn0 : n0 ≤ 10000000) :
    Calls Try.prog 20 #[.slice ap np cp, .slice a0 n0 c0] w (DensePostC (.slice ap np cp) ts w) := by
  rcases Nat.eq_zero_or_pos n0 with h | h
  · subst h
    obtain rfl : ts = [] := List.eq_nil_of_length_eq_zero h0.len
    go_enter Try.func20, Try.ntmps20
    go_wp2
    go_ret
    exact ⟨rfl, ⟨.slice none 0 0, Blk.new w [.slice ap np cp, .slice none 0 0, .map none, .slice none 0 0, .int .i64 0, .map none] 74, World.ownsRow_nil _ _ _ _, fun a n c e => by cases e; rfl⟩, (Below.refl _ _).alloc (Nat.le_refl _) _⟩
  · exact dense20c_pos ap np cp a0 n0 c0 ts w h0 hn0 h


/-- The index of the first k peers. -/
def ixTo (ps : List Int) : Nat → Int → Option Int
  | 0 => fun _ => none
  | k + 1 => match ps[k]? with
    | some x => upd (ixTo ps k) x k
    | none => ixTo ps k

theorem ix_iff {ps : List Int} (hd : Dist ps) : ∀ (k : Nat) (x v : Int), ixTo ps k x = some v ↔ ∃ i : Nat, i < k ∧ v = i ∧ ps[i]? = some x
  | 0, x, v => by simp [ixTo]
  | k + 1, x, v => by
    rw [ixTo]
    have ih := ix_iff hd k x v
    cases hk : ps[k]? with
    | none =>
      rw [ih]
      constructor
      · rintro ⟨i, h1, h2, h3⟩; exact ⟨i, by omega, h2, h3⟩
      · rintro ⟨i, h1, h2, h3⟩
        by_cases e : i = k
        · subst e; rw [hk] at h3; cases h3
        · exact ⟨i, by omega, h2, h3⟩
    | some y =>
      simp only [upd]
      by_cases e : x = y
      · subst e
        rw [if_pos rfl]
        constructor
        · intro h; cases h; exact ⟨k, by omega, rfl, hk⟩
        · rintro ⟨i, h1, h2, h3⟩
          by_cases ei : i = k
          · subst ei; rw [h2]
          · exact absurd rfl (hd i k x x (by omega) h3 hk)
      · rw [if_neg e, ih]
        constructor
        · rintro ⟨i, h1, h2, h3⟩; exact ⟨i, by omega, h2, h3⟩
        · rintro ⟨i, h1, h2, h3⟩
          by_cases ei : i = k
          · subst ei; rw [hk] at h3; cases h3; exact absurd rfl e
          · exact ⟨i, by omega, h2, h3⟩

theorem fits_nat {n : Nat} (h : n ≤ 1000000000) : Fits (n : Int) := by
  simp only [Fits, Lit.wf, IntKind.min, IntKind.max, IntKind.signed, IntKind.bits]
  simp; omega

theorem makeMap71 (w : World) (n : Int) : (Instr.makeMap 71 (some (.int .i64 n))).run Try.prog w = .ok (.map (some w.heap.size)) (w.alloc (.map #[] 0)) := by
  simp [Instr.makeMap, run_underlying Try.underlying71, asInt, Result.andThen]
  rfl

/-- What ZZLinkTableSparse comes to. -/
def SparsePost (pv : Value) (ps ts lo hi : List Int) (n : Int) (w : World) (e : Ending) (w' : World) : Prop :=
  e = .returned (.pointer (some ⟨w.heap.size, 0, none⟩)) ∧ (∃ kv mb uv, Blk w' w.heap.size [pv, kv, .map (some mb), uv, .int .i64 n, .map none] 74 ∧ w'.ownsRow w.heap.size 83 19 kv ts.length (links ts) ∧ (∀ a n c, kv = .slice a n c → n = c) ∧
    IM w' mb ps.length (ixTo ps ps.length) ∧ w.heap.size ≤ mb ∧ w'.ownsRow w.heap.size 68 2 uv (lo.zip hi).length (flat (lo.zip hi))) ∧ Below w.heap.size w w'

set_option maxHeartbeats 2000000 in
set_option maxRecDepth 100000 in
theorem sparse37 (ap : Option Addr) (N cp : Nat) (a1 a2 a3 : Option Addr) (c1 n2 c2 c3 : Nat) (ps ts lo hi : List Int) (n : Int) (w : World) (h0 : Row .i64 w ap N ps) (h1 : Row .u8 w a1 N ts) (h2 : Row .i64 w a2 n2 lo) (h3 : Row .i64 w a3 n2 hi) (hN : N ≤ 1000000) (hn2 : n2 ≤ 1000000) (hf : ∀ x ∈ ps, Fits x) :
    Calls Try.prog 37 #[.slice ap N cp, .slice a1 N c1, .slice a2 n2 c2, .slice a3 n2 c3, .int .i64 n] w (SparsePost (.slice ap N cp) ps ts lo hi n w) := by
  have HLN := hid h0.len
  have HF := hid hf
  clear hf
  go_enter Try.func37, Try.ntmps37
  go_wp2_with fail
  refine (dense20c ap N cp a1 N c1 ts w h1 (by omega)).mono ?_
  rintro e w1 ⟨rfl, ⟨kv, hdr, hkept, hcap⟩, hb1⟩
  have HCAP := hid hcap
  have hmm := makeMap71 w1
  have hgt : w.heap.size < w1.heap.size := hdr.lt
  have hdr2 := hdr.alloc (.map #[] 0)
  have f2 := hdr2.free 2
  have c2' := hdr2.cell (j := 2) rfl
  have hdr3 := hid (hdr2.set 2 (.map (some w1.heap.size)))
  have FR : Fr (fun k => k = w.heap.size) w1 ((w1.alloc (.map #[] 0)).setCell ⟨w.heap.size, 2, none⟩ (.map (some w1.heap.size))) := Fr.setCell (p := ⟨w.heap.size, 2, none⟩) ((Fr.refl (fun k => k = w.heap.size) w1).alloc _) _ (fun _ => rfl)
  have KP : Hid (((w1.alloc (.map #[] 0)).setCell ⟨w.heap.size, 2, none⟩ (.map (some w1.heap.size))).ownsRow w.heap.size 83 19 kv ts.length (links ts)) := ownsRow_fr hkept FR (fun g hg h => by
    rcases ownsRow_form hkept with ⟨rfl, _⟩ | ⟨g', cap, rest, rfl, _, _, _, _, _, hblk⟩
    · simp [Value.ownBlock] at hg
    · simp [Value.ownBlock] at hg
      subst hg
      exact hblk.ne_type hdr (by decide) h)
  have IM0 : Hid (IM ((w1.alloc (.map #[] 0)).setCell ⟨w.heap.size, 2, none⟩ (.map (some w1.heap.size))) w1.heap.size 0 (ixTo ps 0)) := (IM.made w1).fr (Fr.setCell (p := ⟨w.heap.size, 2, none⟩) (Fr.refl (fun k => k = w.heap.size) _) _ (fun _ => rfl)) (by omega)
  have HB2 : Hid (Below w.heap.size w ((w1.alloc (.map #[] 0)).setCell ⟨w.heap.size, 2, none⟩ (.map (some w1.heap.size)))) := (hb1.alloc (by omega) _).setCell (Nat.le_refl _) _
  rw [World.setCell_alloc_past _ _ _ _ hgt] at hdr3 KP IM0 HB2
  clear hcap hdr hkept hb1 hdr2 FR
  go_wp2
  generalize hmb : w1.heap.size = mb at hgt hdr3 KP IM0 HB2 ⊢
  generalize hT : w.heap.size = T at *
  have HT := hid hT
  clear hmm hmb hT f2 c2'
  go_loopw [12] (fun i wr => ∃ k, k ≤ N ∧ i = .int .i64 k ∧ Hid (Blk wr T [.slice ap N cp, kv, .map (some mb), .slice none 0 0, .int .i64 0, .map none] 74) ∧ Hid (wr.ownsRow T 83 19 kv ts.length (links ts)) ∧ Hid (IM wr mb k (ixTo ps k)) ∧ Hid (Below T w wr)) (fun i _ => N - (intOf i).toNat)
  case atStart => exact ⟨0, Nat.zero_le _, rfl, hdr3, KP, IM0, HB2⟩
  case round =>
    clear hdr3 KP IM0 HB2
    obtain ⟨k, hk, rfl, HD, KP, HI, HB⟩ := hrel
    have c2' := HD.out.cell (j := 2) rfl
    have hb' : Below w.heap.size w wr := by rw [HT.out]; exact HB.out
    by_cases hlt : k < N
    · obtain ⟨b, off, x, rfl, e0, HX⟩ := (h0.keep hb').at k hlt
      obtain ⟨w', hrun, him, hfr⟩ := HI.out.drew.put x k (HF.out x (List.mem_of_getElem? HX.out)) (fits_nat (by omega)) (by unfold maxLen; omega)
      have hne := HI.out.ne HD.out
      have HD' := hid (HD.out.drew.fr hfr (fun h => hne h.symm))
      have KP' : Hid (w'.ownsRow T 83 19 kv ts.length (links ts)) := ownsRow_fr (World.ownsRow.drew KP.out) hfr (fun g hg h => by
        rcases ownsRow_form KP.out with ⟨rfl, _⟩ | ⟨g', cap, rest, rfl, _, _, _, _, _, hblk⟩
        · simp [Value.ownBlock] at hg
        · simp [Value.ownBlock] at hg
          subst hg
          exact HI.out.ne hblk h.symm)
      have HI' : Hid (IM w' mb (k + 1) (ixTo ps (k + 1))) := by
        show IM _ _ _ _
        rw [ixTo, HX.out]
        exact him
      have HB' : Hid (Below T w w') := HB.out.trans ((Below.refl T wr).drew.trans (hfr.below (by have := HB.out.size; rw [HT.out] at this; exact this) (by intro q hq; omega)))
      clear him hfr hb'
      go_wp2
      go_region
      go_wp2
      go_roundw
      case rel => exact ⟨k + 1, by omega, by go_num, HD', KP', HI', HB'⟩
      case measure => simp [intOf]; omega
    · obtain rfl : k = N := by omega
      have hne := HI.out.ne HD.out
      have hTl : T < wr.heap.size := HD.out.lt
      go_wp2_with fail
      refine (runSetOf a2 a3 n2 c2 c3 lo hi n wr (h2.keep hb') (h3.keep hb') (by omega)).mono ?_
      rintro e w5 ⟨rfl, ⟨v, hrs⟩, hb5⟩
      obtain ⟨va, vn, vc, rfl⟩ : ∃ a n c, v = .slice a n c := by
        rcases ownsRow_form hrs.row with ⟨rfl, _⟩ | ⟨g', cap, rest, rfl, _⟩
        · exact ⟨_, _, _, rfl⟩
        · exact ⟨_, _, _, rfl⟩
      have HD5 := hid (HD.out.keep hb5)
      have s0 := hrs.hdr.cell (j := 0) rfl
      have s1 := hrs.hdr.cell (j := 1) rfl
      have d0 := HD5.out.cell (j := 3) rfl
      have d1 := HD5.out.cell (j := 4) rfl
      have g0 := HD5.out.free 3
      have g1 := HD5.out.free 4
      have HR := hid hrs.row
      have HB5 := hid hb5
      have HKP5 := hid (ownsRow_keep KP.out hb5)
      have HIM5 := hid (HI.out.keep hb5)
      clear hrs hb5 hb'
      go_wp2
      go_ret
      have FR : Fr (fun k => k = T) w5 ((w5.setCell ⟨T, 3, none⟩ (.slice va vn vc)).setCell ⟨T, 4, none⟩ (.int .i64 n)) := Fr.setCell (p := ⟨T, 4, none⟩) (Fr.setCell (p := ⟨T, 3, none⟩) (Fr.refl (fun k => k = T) w5) (.slice va vn vc) (fun _ => rfl)) _ (fun _ => rfl)
      have hwT : wr.heap.size ≤ w5.heap.size := HB5.out.size
      refine ⟨by rw [HT.out]; rfl, ⟨kv, mb, .slice va vn vc, ?_, ?_, HCAP.out, ?_, ?_, ?_⟩, ?_⟩
      · rw [HT.out]; exact (HD5.out.set 3 (.slice va vn vc)).set 4 (.int .i64 n)
      · rw [HT.out]
        exact ownsRow_fr HKP5.out FR (fun g hg h => by
          rcases ownsRow_form HKP5.out with ⟨rfl, _⟩ | ⟨g', cap, rest, rfl, _, _, _, _, _, hblk⟩
          · simp [Value.ownBlock] at hg
          · simp [Value.ownBlock] at hg
            subst hg
            exact hblk.ne_type HD5.out (by decide) h)
      · rw [HLN.out]
        exact HIM5.out.fr FR (fun h => hne h)
      · rw [HT.out]; omega
      · rw [HT.out]
        exact ownsRow_low (ownsRow_fr HR.out FR (fun g hg h => by have := (HR.out.lt g hg).1; omega)) (by omega)
      · rw [HT.out]
        exact ((HB.out.trans (HB5.out.mono (by omega))).setCell (Nat.le_refl _) _).setCell (Nat.le_refl _) _

end Go.Proofs.Qxb6600404a
