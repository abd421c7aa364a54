/-
  Seat b6600404a: ZZLinkTableGet (dense), ZZLinkTablePeers, ZZLinkTableTags, ZZLinkTableKeptCopy, ZZLinkSetSeq, ZZLinkIsZero, ZZLinkSeq.
-/
import Derived.Test.Qxb6600404aDense3
import Derived.Deep.WholeRow
import Derived.Deep.MidRow
namespace Go.Proofs.Qxb6600404a
open Go.RowKit
set_option linter.unusedVariables false
set_option linter.unusedSimpArgs false

set_option maxHeartbeats 1000000 in
set_option maxRecDepth 100000 in
theorem get22_dense (B t : Nat) (pv kv uv un av : Value) (ps ts : List Int) (j : Int) (w : World) (h : LT w B t pv kv (.map none) uv un av ps ts) (hl : ps.length = ts.length) (hn : ps.length ≤ 100000000) (hs : SAscTo ps ps.length) :
    Calls Try.prog 22 #[.pointer (some ⟨t, 0, none⟩), .int .i64 j] w (GetPost ps ts kv j w) := by
  go_enter Try.func22, Try.ntmps22
  go_wp2_with fail
  refine (get51_dense B t pv kv uv un av ps ts j w h hl hn hs).mono ?_
  rintro e w' ⟨rfl, ⟨g, k, hg, rfl, hk⟩ | ⟨rfl, hk⟩⟩
  · have HK := hid hk
    clear hk hs
    go_wp2
    go_ret2
    exact ⟨rfl, .inl ⟨g, k, hg, rfl, HK.out⟩⟩
  · have HK := hid hk
    clear hk hs
    go_wp2
    go_ret2
    exact ⟨rfl, .inr ⟨rfl, HK.out⟩⟩

/-- A fresh row of integers is handed back. -/
def RowPost (k : IntKind) (ty : TypeId) (xs : List Int) (w : World) (e : Ending) (w' : World) : Prop := ∃ g, e = .returned (.slice (some ⟨g, 0, none⟩) xs.length xs.length) ∧ w.heap.size ≤ g ∧ Blk w' g (ints k xs) ty ∧ Below w.heap.size w w'

set_option maxHeartbeats 1000000 in
set_option maxRecDepth 100000 in
theorem peers23 (t : Nat) (ap : Option Addr) (cp : Nat) (kv mv uv un av : Value) (ps : List Int) (N : Nat) (w : World) (hdr : Blk w t [.slice ap N cp, kv, mv, uv, un, av] 74) (hrow : Row .i64 w ap N ps) (hn : N ≤ 100000000) :
    Calls Try.prog 23 #[.pointer (some ⟨t, 0, none⟩)] w (RowPost .i64 3 ps w) := by
  obtain ⟨i0, hi0, hz0, hz1, hz2⟩ := info_parts info3
  have HLN := hid hrow.len
  have c0 := hdr.cell (j := 0) rfl
  go_enter Try.func23, Try.ntmps23
  go_wp2_with (at_make; refine wpList_make_full _ rfl _ _ 22 rfl w.heap.size 3 i0 (.int .i64 0) 1 Try.underlying22 hi0 hz0 hz1 _ _ _ _ N rfl rfl rfl rfl (by rw [hz2]; omega) (by unfold maxLen; omega) (Nat.le_refl _) ?_)
  intro w1 hown1 hgrow1
  have hb1 : Below w.heap.size w w1 := (Below.refl _ _).grown hgrow1 (Nat.le_refl _) (by simp)
  have k1 := made_ints hown1
  clear hown1 hgrow1 hi0 hz0 hz1 hz2 c0
  go_wp2
  go_loopw [4] (fun i wr => ∃ k, k ≤ N ∧ i = .int .i64 k ∧ Blk wr w.heap.size (ints .i64 (ps.take k) ++ List.replicate (N - k) (.int .i64 0)) 3 ∧ Below w.heap.size w wr) (fun i _ => N - (intOf i).toNat)
  case atStart => exact ⟨0, Nat.zero_le _, rfl, by simpa [ints] using k1, hb1⟩
  case round =>
    clear k1 hb1
    obtain ⟨k, hk, rfl, k1, hb⟩ := hrel
    have hh := hdr.keep hb
    have c0 := hh.cell (j := 0) rfl
    by_cases hlt : k < N
    · obtain ⟨b, off, x, rfl, e0, HX⟩ := (hrow.keep hb).at k hlt
      obtain ⟨m, hm⟩ : ∃ m, N - k = m + 1 := ⟨N - k - 1, by omega⟩
      have HM : Hid (N - (k + 1) = m) := by show _ = _; omega
      rw [hm] at k1
      clear hm
      have HL1 : Hid ((ps.take k).length = k) := by show _ = _; have := HLN.out; simp; omega
      have z1 := k1.cell (zero_at HL1.out)
      have f1 := k1.free k
      have H1 : Hid (Blk (wr.setCell ⟨w.heap.size, k, none⟩ (.int .i64 x)) w.heap.size (ints .i64 (ps.take (k + 1)) ++ List.replicate (N - (k + 1)) (.int .i64 0)) 3) := by
        have := k1.set k (.int .i64 x)
        rw [set_one HL1.out] at this
        rw [HM.out, take_snoc HX.out]
        exact this
      clear k1 hh
      go_wp2
      go_roundw
      case rel => exact ⟨k + 1, by omega, by go_num, H1.out, hb.setCell (Nat.le_refl _) _⟩
      case measure => simp [intOf]; omega
    · clear hh
      go_wp2
      go_ret
      obtain rfl : k = N := by omega
      rw [List.take_of_length_le (by rw [HLN.out]; omega), Nat.sub_self, List.replicate_zero, List.append_nil] at k1
      have hl := HLN.out
      subst hl
      exact ⟨_, rfl, Nat.le_refl _, k1, hb⟩

theorem info5 : (Try.prog.info? 5).map (fun i => (i.zero, i.size, i.bytes)) = some (some (.int .u8 0), 1, 1) := by kernel_rfl

set_option maxHeartbeats 1000000 in
set_option maxRecDepth 100000 in
theorem tags24 (t : Nat) (ao : Option Addr) (cp : Nat) (pv mv uv un av : Value) (ts : List Int) (N : Nat) (w : World) (hdr : Blk w t [pv, .slice ao N cp, mv, uv, un, av] 74) (HLN : Hid (ts.length = N)) (hn : N ≤ 100000000)
    (hcells : ∀ w', Below w.heap.size w w' → ∀ k, k < N → ∃ g x, ao = some ⟨g, 0, none⟩ ∧ Hid (ts[k]? = some x) ∧ w'.cell? ⟨g, k * 19 + 13, none⟩ = some (.int .u8 x)) :
    Calls Try.prog 24 #[.pointer (some ⟨t, 0, none⟩)] w (RowPost .u8 5 ts w) := by
  obtain ⟨i0, hi0, hz0, hz1, hz2⟩ := info_parts info5
  have c0 := hdr.cell (j := 1) rfl
  have HC := hid hcells
  clear hcells
  go_enter Try.func24, Try.ntmps24
  go_wp2_with (at_make; refine wpList_make_full _ rfl _ _ 34 rfl w.heap.size 5 i0 (.int .u8 0) 1 Try.underlying34 hi0 hz0 hz1 _ _ _ _ N rfl rfl rfl rfl (by rw [hz2]; omega) (by unfold maxLen; omega) (Nat.le_refl _) ?_)
  intro w1 hown1 hgrow1
  have hb1 : Below w.heap.size w w1 := (Below.refl _ _).grown hgrow1 (Nat.le_refl _) (by simp)
  have k1 := made_ints hown1
  clear hown1 hgrow1 hi0 hz0 hz1 hz2 c0
  go_wp2
  go_loopw [4] (fun i wr => ∃ k, k ≤ N ∧ i = .int .i64 k ∧ Blk wr w.heap.size (ints .u8 (ts.take k) ++ List.replicate (N - k) (.int .u8 0)) 5 ∧ Below w.heap.size w wr) (fun i _ => N - (intOf i).toNat)
  case atStart => exact ⟨0, Nat.zero_le _, rfl, by simpa [ints] using k1, hb1⟩
  case round =>
    clear k1 hb1
    obtain ⟨k, hk, rfl, k1, hb⟩ := hrel
    have hh := hdr.keep hb
    have c0 := hh.cell (j := 1) rfl
    by_cases hlt : k < N
    · obtain ⟨g, x, rfl, HX, e0⟩ := HC.out wr hb k hlt
      obtain ⟨m, hm⟩ : ∃ m, N - k = m + 1 := ⟨N - k - 1, by omega⟩
      have HM : Hid (N - (k + 1) = m) := by show _ = _; omega
      rw [hm] at k1
      clear hm
      have HL1 : Hid ((ts.take k).length = k) := by show _ = _; have := HLN.out; simp; omega
      have z1 := k1.cell (zero_at HL1.out)
      have f1 := k1.free k
      have H1 : Hid (Blk (wr.setCell ⟨w.heap.size, k, none⟩ (.int .u8 x)) w.heap.size (ints .u8 (ts.take (k + 1)) ++ List.replicate (N - (k + 1)) (.int .u8 0)) 5) := by
        have := k1.set k (.int .u8 x)
        rw [set_one HL1.out] at this
        rw [HM.out, take_snoc HX.out]
        exact this
      clear k1 hh
      go_wp2
      go_roundw
      case rel => exact ⟨k + 1, by omega, by go_num, H1.out, hb.setCell (Nat.le_refl _) _⟩
      case measure => simp [intOf]; omega
    · clear hh
      go_wp2
      go_ret
      obtain rfl : k = N := by omega
      rw [List.take_of_length_le (by rw [HLN.out]; omega), Nat.sub_self, List.replicate_zero, List.append_nil] at k1
      have hl := HLN.out
      subst hl
      exact ⟨_, rfl, Nat.le_refl _, k1, hb⟩

theorem tags24_of (B t : Nat) (pv kv mv uv un av : Value) (ps ts : List Int) (w : World) (h : LT w B t pv kv mv uv un av ps ts) (hn : ts.length ≤ 100000000) :
    Calls Try.prog 24 #[.pointer (some ⟨t, 0, none⟩)] w (RowPost .u8 5 ts w) := by
  rcases ownsRow_form h.kept with ⟨rfl, h0, _⟩ | ⟨g, cap, rest, rfl, hg, hnc, hcm, hl1, hl2, hblk⟩
  · exact tags24 t none 0 pv mv uv un av ts 0 w h.hdr h0 (by omega) (fun w' _ k hk => by omega)
  · exact tags24 t _ cap pv mv uv un av ts _ w h.hdr rfl hn (fun w' hb k hk => ⟨g, ts[k], rfl, List.getElem?_eq_getElem hk, (hblk.keep hb).link (List.getElem?_eq_getElem hk) rfl⟩)

theorem peers23_of (B t : Nat) (pv kv mv uv un av : Value) (ps ts : List Int) (w : World) (h : LT w B t pv kv mv uv un av ps ts) (hn : ps.length ≤ 100000000) :
    Calls Try.prog 23 #[.pointer (some ⟨t, 0, none⟩)] w (RowPost .i64 3 ps w) := by
  obtain ⟨ap, cp, rfl, hrow, _, _⟩ := row_owned h.peers
  exact peers23 t ap cp kv mv uv un av ps _ w h.hdr hrow hn

/-- The nineteen cells of a link that lies at place k. -/
theorem link_cells {w : World} {g k : Nat} {ts : List Int} {rest : List Value} {x : Int} (hb : Blk w g (links ts ++ rest) 83) (hx : ts[k]? = some x) :
    w.cell? ⟨g, k * 19, none⟩ = some (.float .f64 0) ∧ w.cell? ⟨g, k * 19 + 1, none⟩ = some (.float .f64 0) ∧ w.cell? ⟨g, k * 19 + 2, none⟩ = some (.float .f64 0) ∧ w.cell? ⟨g, k * 19 + 3, none⟩ = some (.float .f64 0) ∧ w.cell? ⟨g, k * 19 + 4, none⟩ = some (.float .f64 0) ∧ w.cell? ⟨g, k * 19 + 5, none⟩ = some (.float .f64 0) ∧ w.cell? ⟨g, k * 19 + 6, none⟩ = some (.float .f64 0) ∧ w.cell? ⟨g, k * 19 + 7, none⟩ = some (.float .f64 0) ∧ w.cell? ⟨g, k * 19 + 8, none⟩ = some (.float .f64 0) ∧ w.cell? ⟨g, k * 19 + 9, none⟩ = some (.float .f64 0) ∧ w.cell? ⟨g, k * 19 + 10, none⟩ = some (.int .u32 0) ∧ w.cell? ⟨g, k * 19 + 11, none⟩ = some (.int .u8 0) ∧ w.cell? ⟨g, k * 19 + 12, none⟩ = some (.int .u8 0) ∧ w.cell? ⟨g, k * 19 + 13, none⟩ = some (.int .u8 x) ∧ w.cell? ⟨g, k * 19 + 14, none⟩ = some (.int .u8 0) ∧ w.cell? ⟨g, k * 19 + 15, none⟩ = some (.int .u8 0) ∧ w.cell? ⟨g, k * 19 + 16, none⟩ = some (.int .u8 0) ∧ w.cell? ⟨g, k * 19 + 17, none⟩ = some (.bool false) ∧ w.cell? ⟨g, k * 19 + 18, none⟩ = some (.bool false) :=
  ⟨hb.link hx (j := 0) rfl, hb.link hx rfl, hb.link hx rfl, hb.link hx rfl, hb.link hx rfl, hb.link hx rfl, hb.link hx rfl, hb.link hx rfl, hb.link hx rfl, hb.link hx rfl, hb.link hx rfl, hb.link hx rfl, hb.link hx rfl, hb.link hx rfl, hb.link hx rfl, hb.link hx rfl, hb.link hx rfl, hb.link hx rfl, hb.link hx rfl⟩

theorem size83 {cs : List Value} (h : cs.length = 19) : (Try.prog.info? 83).map (·.size) = some cs.length := by rw [h]; exact (zero_of_info (show (Try.prog.info? 83).map (fun i => (i.zero, i.size)) = some (some (.agg (linkC 0).toArray), 19) by kernel_rfl)).2
theorem size83a {cs : List Value} (h : cs.length = 19) : (Try.prog.info? 83).map (·.size) = some cs.toArray.size := size83 h
theorem linkC_one (x : Int) : ∀ u ∈ linkC x, u.oneCell' = true := fun v hv => links_one [x] v (by simpa [links] using hv)
theorem storeNew83 {cs : List Value} (h : cs.length = 19) (h1 : ∀ u ∈ cs, u.oneCell' = true) (w : World) (c : Array Value) (hc : c.size = 19) : (storeCells ⟨w.heap.size, 0, none⟩ cs 0).run Try.prog (w.alloc (.cells c 83)) = .ok () (w.alloc (.cells cs.toArray 83)) :=
  run_storeCells_new w 83 c cs.toArray (size83a h) (by simp [hc, h]) (all_oneCell_toArray h1)
theorem row83 : ∃ d, Try.prog.underlying 83 = some d ∧ d.isRow = true := ⟨_, Try.underlying83, rfl⟩

set_option maxHeartbeats 2000000 in
set_option maxRecDepth 100000 in
theorem copy26' (t g n cap k : Nat) (pv mv uv un av : Value) (cs : List Value) (w : World) (hdr : Blk w t [pv, .slice (some ⟨g, 0, none⟩) n cap, mv, uv, un, av] 74) (hr : w.rangeAt g (k * 19) cs) (hcs : cs.length = 19) (h1 : ∀ u ∈ cs, u.oneCell' = true) (hk : k < n) (hn : n ≤ 100000000) :
    Calls Try.prog 26 #[.pointer (some ⟨t, 0, none⟩), .int .i64 k] w (fun e w' => e = .returned (.pointer (some ⟨w.heap.size, 0, none⟩)) ∧ w' = w.alloc (.cells cs.toArray 83)) := by
  have c0 := hdr.cell (j := 1) rfl
  obtain ⟨d, hu, hd⟩ := row83
  have hs := hid (size83 hcs)
  have hsa := hid (size83a hcs)
  have HU := hid hu
  have hst := storeNew83 hcs h1
  clear hu h1
  go_enter Try.func26, Try.ntmps26
  go_wp2_with (refine wpList_load_mid rfl 83 _ rfl g (k * 19) rfl cs d hr HU.out hd hs.out ?_)
  go_wp2
  go_ret
  exact ⟨rfl, rfl⟩

theorem copy26 (t g n cap k : Nat) (pv mv uv un av : Value) (ts : List Int) (rest : List Value) (x : Int) (w : World) (hdr : Blk w t [pv, .slice (some ⟨g, 0, none⟩) n cap, mv, uv, un, av] 74) (hb : Blk w g (links ts ++ rest) 83) (hx : Hid (ts[k]? = some x)) (hk : k < n) (hn : n ≤ 100000000) :
    Calls Try.prog 26 #[.pointer (some ⟨t, 0, none⟩), .int .i64 k] w (fun e w' => e = .returned (.pointer (some ⟨w.heap.size, 0, none⟩)) ∧ w' = w.alloc (.cells (linkC x).toArray 83)) :=
  copy26' t g n cap k pv mv uv un av (linkC x) w hdr (fun j v hv => hb.link hx.out hv) (linkC_length x) (linkC_one x) hk hn

set_option maxHeartbeats 2000000 in
set_option maxRecDepth 100000 in
theorem setSeq27 (g o : Nat) (v : Int) (u : Value) (w : World) (hc : w.cell? ⟨g, o + 13, none⟩ = some u) (hf : w.frozen? ⟨g, o + 13, none⟩ = false) :
    Calls Try.prog 27 #[.pointer (some ⟨g, o, none⟩), .int .u8 v] w (fun e w' => e = .returned (.tuple #[]) ∧ w' = w.setCell ⟨g, o + 13, none⟩ (.int .u8 v)) := by
  go_enter Try.func27, Try.ntmps27
  go_wp2
  go_end0
  exact ⟨rfl, rfl⟩

set_option maxHeartbeats 2000000 in
set_option maxRecDepth 100000 in
theorem seq30 (g o : Nat) (v : Int) (w : World) (hc : w.cell? ⟨g, o + 13, none⟩ = some (.int .u8 v)) :
    Calls Try.prog 30 #[.pointer (some ⟨g, o, none⟩)] w (fun e w' => e = .returned (.int .u8 v) ∧ w' = w) := by
  go_enter Try.func30, Try.ntmps30
  go_wp2
  go_ret
  exact ⟨rfl, rfl⟩

end Go.Proofs.Qxb6600404a
