/-
  Seat b6600404a: what the last statement asks of a link table, in four steps; a dense table grants it.
-/
import Derived.Test.Qxb6600404aTopD
import Derived.Test.Qxb6600404aSparse3
namespace Go.Proofs.Qxb6600404a
open Go.RowKit
set_option linter.unusedVariables false
set_option linter.unusedSimpArgs false

/-- A row of another type lies elsewhere. -/
theorem ownsRow_ne {w : World} {B : Nat} {e e' : TypeId} {size n g g' : Nat} {v : Value} {xs cs : List Value} (h : w.ownsRow B e size v n xs) (hb : Blk w g cs e') (he : e ≠ e') (hv : v.ownBlock = some g') : g' ≠ g := by
  rcases ownsRow_form h with ⟨rfl, _⟩ | ⟨g2, c', rest, rfl, _, _, _, _, _, hblk⟩
  · simp [Value.ownBlock] at hv
  · simp [Value.ownBlock] at hv
    subst hv
    exact hblk.ne_type hb he

/-- A tag is written into the kept link at place k. -/
theorem LT.setSeq {w : World} {B t g k : Nat} {pv kv mv uv un av : Value} {ps ts : List Int} (h : LT w B t pv kv mv uv un av ps ts) (hg : kv.ownBlock = some g) (hk : k < ts.length) (v : Int) :
    LT (w.setCell ⟨g, k * 19 + 13, none⟩ (.int .u8 v)) B t pv kv mv uv un av ps (ts.set k v) ∧ B ≤ g ∧ (∃ y, w.cell? ⟨g, k * 19 + 13, none⟩ = some y) ∧ w.frozen? ⟨g, k * 19 + 13, none⟩ = false ∧ (w.setCell ⟨g, k * 19 + 13, none⟩ (.int .u8 v)).cell? ⟨g, k * 19 + 13, none⟩ = some (.int .u8 v) ∧ ∃ cs, Blk w g cs 83 := by
  obtain ⟨g', cap, rest, rfl, hB, hnc, hcm, hl2, hblk⟩ := h.keptAt hk
  obtain rfl : g' = g := by simpa [Value.ownBlock] using hg
  have hx := List.getElem?_eq_getElem hk
  have hb2 : Blk (w.setCell ⟨g', k * 19 + 13, none⟩ (.int .u8 v)) g' (links (ts.set k v) ++ rest) 83 := by
    have := hblk.set (k * 19 + 13) (.int .u8 v)
    rw [List.set_append_left _ _ (by rw [links_length]; omega), links_set _ _ _ hk] at this
    exact this
  have FR : Fr (fun q => q = g') w (w.setCell ⟨g', k * 19 + 13, none⟩ (.int .u8 v)) := Fr.setCell (p := ⟨g', k * 19 + 13, none⟩) (Fr.refl _ w) _ (fun _ => rfl)
  refine ⟨⟨h.hdr.fr FR (h.hdr.ne_type hblk (by decide)), h.low, ownsRow_fr h.peers FR (fun q hq => ownsRow_ne h.peers hblk (by decide) hq), ?_⟩, hB, ⟨_, hblk.link hx rfl⟩, hblk.free _, hb2.link (List.getElem?_set_self hk) rfl, _, hblk⟩
  have e : (ts.set k v).length = ts.length := List.length_set
  rw [e]
  exact ownsRow_mk hB hnc hcm (by rw [links_length, e]) (by rw [links_length, e, ← links_length]; exact hl2) hb2

/-- get's two results, and what is said of them. -/
def GotP (Post : Option Addr → Bool → World → Prop) (e : Ending) (w' : World) : Prop := ∃ l b, e = .returned (.tuple #[.pointer l, .bool b]) ∧ Post l b w'

set_option maxHeartbeats 1000000 in
set_option maxRecDepth 100000 in
theorem get22 (t : Nat) (j : Int) (w : World) (Post : Option Addr → Bool → World → Prop) (h : Calls Try.prog 51 #[.pointer (some ⟨t, 0, none⟩), .int .i64 j] w (GotP Post)) :
    Calls Try.prog 22 #[.pointer (some ⟨t, 0, none⟩), .int .i64 j] w (GotP Post) := by
  go_enter Try.func22, Try.ntmps22
  go_wp2_with fail
  refine h.mono ?_
  rintro e w' ⟨l, b, rfl, hp⟩
  have HP := hid hp
  clear hp h
  go_wp2
  go_ret2
  exact ⟨l, b, rfl, HP.out⟩

/-- The last get refuses the link. -/
def C4 (t : Nat) (j : Int) (B : Nat) (w3 : World) : Prop := ∀ w4, Below w3.heap.size w3 w4 → Calls Try.prog 22 #[.pointer (some ⟨t, 0, none⟩), .int .i64 j] w4 (GotP (fun l b w5 => l = none ∧ b = false ∧ Below B w4 w5))
/-- takeDown hands back the tag. -/
def C3 (t : Nat) (j v : Int) (B : Nat) (w2 : World) : Prop := Calls Try.prog 32 #[.pointer (some ⟨t, 0, none⟩), .int .i64 j] w2 (TookP (fun x b w3 => x = v ∧ b = true ∧ Below B w2 w3 ∧ C4 t j B w3))
/-- The second get hands out the same pointer. -/
def C2 (t : Nat) (j v : Int) (B g o : Nat) (w2 : World) : Prop := Calls Try.prog 22 #[.pointer (some ⟨t, 0, none⟩), .int .i64 j] w2 (GotP (fun l b w' => l = some ⟨g, o, none⟩ ∧ b = true ∧ w' = w2)) ∧ w2.cell? ⟨g, o + 13, none⟩ = some (.int .u8 v) ∧ C3 t j v B w2
/-- What the first get comes to, and all that follows. -/
def C1P (t : Nat) (j v : Int) (B : Nat) (w : World) (l : Option Addr) (b : Bool) (w1 : World) : Prop := ∃ g o y, l = some ⟨g, o, none⟩ ∧ b = true ∧ Below B w w1 ∧ B ≤ g ∧ w1.cell? ⟨g, o + 13, none⟩ = some y ∧ w1.frozen? ⟨g, o + 13, none⟩ = false ∧ C2 t j v B g o (w1.setCell ⟨g, o + 13, none⟩ (.int .u8 v))
def C1 (t : Nat) (j v : Int) (B : Nat) (w : World) : Prop := Calls Try.prog 22 #[.pointer (some ⟨t, 0, none⟩), .int .i64 j] w (GotP (C1P t j v B w))

theorem wo_get (k : Nat) (l : List Int) (hk : k ≤ l.length) (i : Nat) : (wo k l)[i]? = if i < k then l[i]? else l[i + 1]? := by
  unfold wo
  by_cases h : i < k
  · rw [if_pos h, List.getElem?_append_left (by rw [List.length_take]; omega), List.getElem?_take]; simp [h]
  · rw [if_neg h, List.getElem?_append_right (by rw [List.length_take]; omega), List.getElem?_drop, List.length_take]
    congr 1; omega

theorem sasc_wo {ps : List Int} {k : Nat} (hs : SAscTo ps ps.length) (hk : k < ps.length) : SAscTo (wo k ps) (wo k ps).length := by
  intro i hi
  rw [wo_length hk] at hi
  rw [wo_get k ps (by omega), wo_get k ps (by omega)]
  have H : ∀ a b : Nat, a < b → b < ps.length → ∃ x y, ps[a]? = some x ∧ ps[b]? = some y ∧ x < y := fun a b h1 h2 => by
    have e1 := List.getElem?_eq_getElem (l := ps) (i := a) (by omega)
    have e2 := List.getElem?_eq_getElem (l := ps) (i := b) h2
    exact ⟨_, _, e1, e2, sasc_mono hs h1 h2 e1 e2⟩
  by_cases h1 : i < k
  · by_cases h2 : i + 1 < k
    · rw [if_pos h1, if_pos h2]; exact H _ _ (by omega) (by omega)
    · rw [if_pos h1, if_neg h2]; exact H _ _ (by omega) (by omega)
  · rw [if_neg h1, if_neg (by omega)]; exact H _ _ (by omega) (by omega)

theorem wo_not {ps : List Int} {k : Nat} {j : Int} (hs : SAscTo ps ps.length) (hk : ps[k]? = some j) (i : Nat) : (wo k ps)[i]? ≠ some j := by
  have h := (List.getElem?_eq_some_iff.1 hk).1
  rw [wo_get k ps (by omega)]
  intro h2
  by_cases h1 : i < k
  · rw [if_pos h1] at h2
    have := sasc_inj hs rfl h2 hk; omega
  · rw [if_neg h1] at h2
    have := sasc_inj hs rfl h2 hk; omega

theorem get22_gone (B t : Nat) (pv kv uv un av : Value) (ps ts : List Int) (j : Int) (w : World) (h : LT w B t pv kv (.map none) uv un av ps ts) (hl : ps.length = ts.length) (hn : ps.length ≤ 100000000) (hs : SAscTo ps ps.length) (hno : ∀ i : Nat, ps[i]? ≠ some j) :
    Calls Try.prog 22 #[.pointer (some ⟨t, 0, none⟩), .int .i64 j] w (GotP (fun l b w5 => l = none ∧ b = false ∧ Below B w w5)) := by
  refine (get22_dense B t pv kv uv un av ps ts j w h hl hn hs).mono ?_
  rintro e w' ⟨rfl, ⟨g, k, _, _, hk⟩ | ⟨rfl, _⟩⟩
  · exact absurd hk (hno k)
  · exact ⟨_, _, rfl, rfl, rfl, Below.refl _ _⟩

theorem get22_kept (B t g i : Nat) (pv kv uv un av : Value) (ps ts : List Int) (j : Int) (w : World) (h : LT w B t pv kv (.map none) uv un av ps ts) (hl : ps.length = ts.length) (hn : ps.length ≤ 100000000) (hs : SAscTo ps ps.length) (hi : ps[i]? = some j) (hg : kv.ownBlock = some g) :
    Calls Try.prog 22 #[.pointer (some ⟨t, 0, none⟩), .int .i64 j] w (GotP (fun l b w' => l = some ⟨g, i * 19, none⟩ ∧ b = true ∧ w' = w)) := by
  refine (get22_dense B t pv kv uv un av ps ts j w h hl hn hs).mono ?_
  rintro e w' ⟨rfl, ⟨g', k, hg', rfl, hk⟩ | ⟨_, hno⟩⟩
  · obtain rfl : k = i := sasc_inj hs rfl hk hi
    obtain rfl : g' = g := by rw [hg] at hg'; simpa using hg'.symm
    exact ⟨_, _, rfl, rfl, rfl, rfl⟩
  · exact absurd hi (hno i)

theorem LT.drewN {w : World} {B t : Nat} {pv kv mv uv un av : Value} {ps ts : List Int} (h : LT w B t pv kv mv uv un av ps ts) (q : Nat) : LT (w.drewN q) B t pv kv mv uv un av ps ts := ⟨h.hdr.drewN q, h.low, ownsRow_drewN h.peers q, ownsRow_drewN h.kept q⟩

/-- A dense table that keeps the link grants all four steps. -/
theorem good_dense (B t : Nat) (pv kv uv un av : Value) (ps ts : List Int) (j v : Int) (i : Nat) (w : World) (h : LT w B t pv kv (.map none) uv un av ps ts) (hl : ps.length = ts.length) (hn : ps.length ≤ 100000000) (hs : SAscTo ps ps.length) (hBw : B ≤ w.heap.size) (hi : ps[i]? = some j) : C1 t j v B w := by
  have hil : i < ts.length := by rw [← hl]; exact (List.getElem?_eq_some_iff.1 hi).1
  obtain ⟨g, cap, rest, hkv, _⟩ := h.keptAt hil
  have hg : kv.ownBlock = some g := by rw [hkv]; rfl
  obtain ⟨h2, hBg, ⟨y, hy⟩, hf, hc, _⟩ := h.setSeq hg hil v
  refine (get22_kept B t g i pv kv uv un av ps ts j w h hl hn hs hi hg).mono ?_
  rintro e w' ⟨l, b, rfl, rfl, rfl, rfl⟩
  refine ⟨_, _, rfl, g, i * 19, y, rfl, rfl, Below.refl _ _, hBg, hy, hf, ?_, hc, ?_⟩
  · exact get22_kept B t g i pv kv uv un av ps _ j _ h2 (by rw [List.length_set]; exact hl) hn hs hi hg
  · refine (takeDown32_dense B t pv kv uv un av ps _ j _ h2 (by rw [List.length_set]; exact hl) hn hs (by show B ≤ (World.setCell _ _ _).heap.size; exact Nat.le_trans hBw (Fr.setCell (p := ⟨g, i * 19 + 13, none⟩) (Fr.refl (fun _ => True) w') _ (fun _ => trivial)).size)).mono ?_
    rintro e w'' ⟨x, b, w3, rfl, hw3, ps', ts', pv', kv', hlt, hb, hlen, hlen', ⟨rfl, k, hk, hx, rfl, rfl⟩ | ⟨_, _, hno, _⟩⟩
    · obtain rfl : k = i := sasc_inj hs rfl hk hi
      rw [List.getElem?_set_self hil] at hx
      have hx2 : x = v := by simpa using hx.symm
      refine ⟨x, true, w3, rfl, hw3, hx2, rfl, hb, ?_⟩
      intro w4 hb4
      exact get22_gone B t pv' kv' uv un av _ _ j w4 (hlt.keep hb4) hlen (by omega) (sasc_wo hs (by omega)) (wo_not hs hi)
    · exact absurd hi (hno i)

end Go.Proofs.Qxb6600404a
