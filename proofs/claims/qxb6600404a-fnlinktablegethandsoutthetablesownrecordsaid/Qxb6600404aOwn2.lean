/-
  Seat b6600404a: a sparse table grants the four steps.
-/
import Derived.Test.Qxb6600404aOwn1
import Derived.Test.Qxb6600404aSparse5
import Derived.Test.Qxb6600404aSparse6
namespace Go.Proofs.Qxb6600404a
open Go.RowKit
set_option linter.unusedVariables false
set_option linter.unusedSimpArgs false

theorem SH.keep {w w' : World} {B t mb : Nat} {rs : List (Int × Int)} {f : Int → Option Int} (h : SH w B t mb rs f) (hb : Below w.heap.size w w') : SH w' B t mb rs f := by
  obtain ⟨pv, kv, uv, un, m, h1, h2, h3⟩ := h.all
  exact ⟨⟨pv, kv, uv, un, m, h1.keep hb, ownsRow_keep h2 hb, h3.keep hb⟩⟩

set_option maxHeartbeats 1000000 in
set_option maxRecDepth 100000 in
theorem get51_gone (B t mb : Nat) (rs : List (Int × Int)) (f : Int → Option Int) (j : Int) (w : World) (h : SH w B t mb rs f) (hf : f j = none) (hno : ¬ ∃ q ∈ rs, q.1 ≤ j ∧ j < q.2) (hpw : Pw rs) (hlen : rs.length ≤ 100000000) (hj : Fits j) (hB : B ≤ w.heap.size) :
    Calls Try.prog 51 #[.pointer (some ⟨t, 0, none⟩), .int .i64 j] w (GotP (fun l b w5 => l = none ∧ b = false ∧ Below B w w5)) := by
  obtain ⟨pv, kv, uv, un, m, hdr, hruns, him⟩ := h.all
  have c1 := hdr.cell (j := 1) rfl
  have c2 := hdr.cell (j := 2) rfl
  have hlook := him.look j hj
  rw [hf] at hlook
  simp only [Option.getD_none, Option.isSome_none] at hlook
  have HRS : Hid (RS (mkL pv kv (.map (some mb)) (.map none)) 74 w B t uv rs un) := ⟨hdr, hruns⟩
  have HNO := hid hno
  clear h hf hj hno hdr hruns him
  go_enter Try.func51, Try.ntmps51
  go_wp2_with fail
  refine (sparse60 t (some mb) w c2).mono ?_
  rintro e w' ⟨rfl, rfl⟩
  go_wp2_with fail
  refine (has55 (hdrL pv kv (.map (some mb)) (.map none)) B t uv rs un j _ HRS.out hpw hlen).mono ?_
  rintro e w2 ⟨r, rfl, hr, hb2⟩
  obtain rfl : r = false := by
    cases r with
    | false => rfl
    | true => exact absurd (hr.1 rfl) HNO.out
  clear hr hlook
  go_wp2
  go_ret2
  exact ⟨_, _, rfl, rfl, rfl, hb2.mono hB⟩

theorem ST.setSeq {w : World} {B t g k : Nat} {pv kv : Value} {mb : Nat} {uv : Value} {un : Int} {ps ts : List Int} {rs : List (Int × Int)} {f : Int → Option Int} {m : Nat} (h : ST w B t pv kv mb uv un ps ts rs f m) (hg : kv.ownBlock = some g) (hk : k < ts.length) (v : Int) :
    ST (w.setCell ⟨g, k * 19 + 13, none⟩ (.int .u8 v)) B t pv kv mb uv un ps (ts.set k v) rs f m := by
  obtain ⟨h2, _, _, _, _, cs, hblk⟩ := h.tab.setSeq hg hk v
  have FR : Fr (fun q => q = g) w (w.setCell ⟨g, k * 19 + 13, none⟩ (.int .u8 v)) := Fr.setCell (p := ⟨g, k * 19 + 13, none⟩) (Fr.refl _ w) _ (fun _ => rfl)
  exact ⟨h2, ownsRow_fr h.runs FR (fun q hq => ownsRow_ne h.runs hblk (by decide) hq), h.map.fr FR (h.map.ne hblk), h.lowm⟩

theorem get22_hit (B t g i : Nat) (pv kv : Value) (mb : Nat) (uv : Value) (un : Int) (ps ts : List Int) (rs : List (Int × Int)) (f : Int → Option Int) (m : Nat) (j : Int) (w : World) (h : ST w B t pv kv mb uv un ps ts rs f m) (hf : f j = some (i : Int)) (hi : i < ts.length) (hn : ts.length ≤ 1000000) (hj : Fits j) (hg : kv.ownBlock = some g) :
    Calls Try.prog 22 #[.pointer (some ⟨t, 0, none⟩), .int .i64 j] w (GotP (fun l b w' => l = some ⟨g, i * 19, none⟩ ∧ b = true ∧ w' = w)) := by
  refine get22 t j w _ ((get51_hit B t pv kv mb uv un ps ts rs f m j i w h hf hi hn hj).mono ?_)
  rintro e w' ⟨rfl, g', hg', rfl⟩
  obtain rfl : g' = g := by rw [hg] at hg'; simpa using hg'.symm
  exact ⟨_, _, rfl, rfl, rfl, rfl⟩

/-- Behind the first get: the table keeps the link at place k. -/
theorem sparse_rest (B t g k : Nat) (pv kv : Value) (mb : Nat) (uv : Value) (un : Int) (ps ts : List Int) (rs : List (Int × Int)) (f : Int → Option Int) (m : Nat) (j v : Int) (w : World) (h : ST w B t pv kv mb uv un ps ts rs f m)
    (hl : ps.length = ts.length) (hn : ps.length ≤ 500000) (hm : m ≤ 1000000) (hf : f j = some (k : Int)) (hpk : ps[k]? = some j) (hd : Dist ps) (hfit : ∀ y ∈ ps, Fits y) (hin : ∃ q ∈ rs, q.1 ≤ j ∧ j < q.2) (hpw : Pw rs) (hbd : Bd rs) (hlen : rs.length ≤ 1000000) (hn0 : 0 ≤ un) (hn1 : un ≤ 4611686018427387903) (hj : Fits j) (hBw : B ≤ w.heap.size) (hg : kv.ownBlock = some g) :
    B ≤ g ∧ (∃ y, w.cell? ⟨g, k * 19 + 13, none⟩ = some y) ∧ w.frozen? ⟨g, k * 19 + 13, none⟩ = false ∧ C2 t j v B g (k * 19) (w.setCell ⟨g, k * 19 + 13, none⟩ (.int .u8 v)) := by
  have hkl : k < ps.length := (List.getElem?_eq_some_iff.1 hpk).1
  have hkt : k < ts.length := by omega
  obtain ⟨_, hBg, hy, hfz, hc, _⟩ := h.tab.setSeq hg hkt v
  have h2 := h.setSeq hg hkt v
  have hBw2 : B ≤ (w.setCell ⟨g, k * 19 + 13, none⟩ (.int .u8 v)).heap.size := Nat.le_trans hBw (Fr.setCell (p := ⟨g, k * 19 + 13, none⟩) (Fr.refl (fun _ => True) w) _ (fun _ => trivial)).size
  refine ⟨hBg, hy, hfz, ?_, hc, ?_⟩
  · exact get22_hit B t g k pv kv mb uv un ps _ rs f m j _ h2 hf (by rw [List.length_set]; exact hkt) (by rw [List.length_set]; omega) hj hg
  · have h3 := h2
    have hBw3 := hBw2
    show C3 t j v B (w.setCell ⟨g, k * 19 + 13, none⟩ (.int .u8 v))
    generalize w.setCell ⟨g, k * 19 + 13, none⟩ (.int .u8 v) = w3 at h3 hBw3 ⊢
    have hkl3 : (ts.set k v).length = ts.length := List.length_set
    obtain ⟨g', cap, rest, hkv, _⟩ := h3.tab.keptAt (k := k) (by omega)
    obtain ⟨a, cp, hpv⟩ : ∃ a cp, pv = .slice a ps.length cp := by
      obtain ⟨a, cap, hv, _⟩ := row_owned h3.tab.peers
      exact ⟨a, cap, hv⟩
    rw [hkl3, ← hl] at hkv
    subst hkv hpv
    refine takeDown32 t j w3 _ ((takeDown52_sparse B t a cp g' cap ps.length mb uv un ps (ts.set k v) rs f m k j v w3 h3 rfl (by omega) hn hm hf hkl hpk (List.getElem?_set_self hkt) hd hfit hin hpw hbd (by omega) hn0 hn1 hj hBw3).mono ?_)
    rintro e w4 ⟨rfl, ⟨rs', f', hsh, hf', hpw', hlen', hno'⟩, hb⟩
    refine ⟨v, true, rfl, rfl, rfl, hb, ?_⟩
    intro w5 hb5
    exact get22 t j w5 _ (get51_gone B t mb rs' f' j w5 (hsh.keep hb5) hf' hno' hpw' (by omega) hj (Nat.le_trans hBw3 (Nat.le_trans hb.size hb5.size)))

theorem dist_snoc {ps : List Int} {j : Int} (hd : Dist ps) (hno : ∀ i : Nat, ps[i]? ≠ some j) : Dist (ps ++ [j]) := by
  intro i k x y hik hx hy
  by_cases hk : k < ps.length
  · rw [List.getElem?_append_left (by omega)] at hx
    rw [List.getElem?_append_left hk] at hy
    exact hd i k x y hik hx hy
  · have hk2 := (List.getElem?_eq_some_iff.1 hy).1
    rw [List.length_append] at hk2
    simp at hk2
    obtain rfl : k = ps.length := by omega
    rw [List.getElem?_append_left (by omega)] at hx
    have : y = j := by simpa using hy.symm
    subst this
    rintro rfl
    exact hno i hx

/-- A sparse table with no spare room grants all four steps for a link that is up. -/
theorem good_sparse (B t : Nat) (a b : Option Addr) (N : Nat) (mb : Nat) (uv : Value) (un : Int) (ps ts : List Int) (rs : List (Int × Int)) (j v : Int) (w : World) (h : ST w B t (.slice a N N) (.slice b N N) mb uv un ps ts rs (ixTo ps ps.length) ps.length)
    (hp : ps.length = N) (ht : ts.length = N) (hN : N ≤ 100000) (hd : Dist ps) (hfit : ∀ y ∈ ps, Fits y) (hin : ∃ q ∈ rs, q.1 ≤ j ∧ j < q.2) (hpw : Pw rs) (hbd : Bd rs) (hlen : rs.length ≤ 1000000) (hn0 : 0 ≤ un) (hn1 : un ≤ 4611686018427387903) (hj : Fits j) (hBw : B ≤ w.heap.size) : C1 t j v B w := by
  cases hf : ixTo ps ps.length j with
  | some k =>
    obtain ⟨i, hi, rfl, hpi⟩ := (ix_iff hd _ _ _).1 hf
    obtain ⟨g, cap, rest, hkv, _⟩ := h.tab.keptAt (k := i) (by omega)
    have hg : (Value.slice b N N).ownBlock = some g := by rw [hkv]; rfl
    refine (get22_hit B t g i _ _ mb uv un ps ts rs _ _ j w h hf (by omega) (by omega) hj hg).mono ?_
    rintro e w' ⟨l, bb, rfl, rfl, rfl, rfl⟩
    obtain ⟨h1, ⟨y, h2⟩, h3, h4⟩ := sparse_rest B t g i _ _ mb uv un ps ts rs _ _ j v w' h (by omega) (by omega) (by omega) hf hpi hd hfit hin hpw hbd hlen hn0 hn1 hj hBw hg
    exact ⟨_, _, rfl, g, i * 19, y, rfl, rfl, Below.refl _ _, h1, h2, h3, h4⟩
  | none =>
    have hno : ∀ i : Nat, ps[i]? ≠ some j := fun i hi => by
      have := (ix_iff hd ps.length j i).2 ⟨i, (List.getElem?_eq_some_iff.1 hi).1, rfl, hi⟩
      rw [hf] at this; cases this
    have e : C1 t j v B w := by
      refine get22 t j w _ ((get51_new B t a b N mb uv un ps ts rs _ _ j w h hp ht (by omega) (by omega) hf hin hpw (by omega) hj hBw).mono ?_)
      rintro e w' ⟨g, pv', kv', rfl, hg, hst, hb⟩
      obtain ⟨h1, ⟨y, h2⟩, h3, h4⟩ := sparse_rest B t g ts.length pv' kv' mb uv un (ps ++ [j]) (ts ++ [0]) rs _ _ j v w' hst (by simp; omega) (by simp; omega) (by omega) (by simp [upd]) (by rw [ht, ← hp]; simp) (dist_snoc hd hno) (by
        intro y hy
        rcases List.mem_append.1 hy with h | h
        · exact hfit y h
        · simp at h; rw [h]; exact hj) hin hpw hbd hlen hn0 hn1 hj (Nat.le_trans hBw hb.size) hg
      exact ⟨_, _, rfl, g, ts.length * 19, y, rfl, rfl, hb, h1, h2, h3, h4⟩
    exact e

end Go.Proofs.Qxb6600404a
