/-
  Seat b6600404a: zzUnionModel.
-/
import Derived.Test.Qxb6600404aMake
namespace Go.Proofs.Qxb6600404a
open Go.RowKit
set_option linter.unusedVariables false
set_option linter.unusedSimpArgs false

/-- One interval laid behind those that are out: it joins the last one where it touches it. -/
def mstep (O : List (Int × Int)) (x : Int × Int) : List (Int × Int) :=
  match O.getLast? with
  | some p => if x.1 ≤ p.2 then O.dropLast ++ [(p.1, if p.2 < x.2 then x.2 else p.2)] else O ++ [x]
  | none => O ++ [x]
def mrg (S : List (Int × Int)) : List (Int × Int) := S.foldl mstep []

theorem mrg_snoc {S : List (Int × Int)} {k : Nat} {x : Int × Int} (h : S[k]? = some x) : mrg (S.take (k + 1)) = mstep (mrg (S.take k)) x := by
  rw [take_snoc h, mrg, List.foldl_append]; rfl
theorem mstep_nil (x : Int × Int) : mstep [] x = [x] := rfl
theorem mstep_join {O0 : List (Int × Int)} {p x : Int × Int} (h : x.1 ≤ p.2) : mstep (O0 ++ [p]) x = O0 ++ [(p.1, if p.2 < x.2 then x.2 else p.2)] := by
  simp [mstep, h]
theorem mstep_push {O0 : List (Int × Int)} {p x : Int × Int} (h : ¬ x.1 ≤ p.2) : mstep (O0 ++ [p]) x = O0 ++ [p] ++ [x] := by
  simp [mstep, h]

/-- append within the capacity, on a block that is known whole. -/
theorem wpList_append_blk {P : Program} {w : World} {ops : Array Oper} {rest : List Oper} {o : Oper} {a : Act} {Q : Exit → Act → World → Prop}
    (hgd : o.guard = none) (s x : Operand) (t : TypeId) (hop : o.op = Op.call { callee := Callee.builtin Builtin.append, args := #[s, x], argTypes := #[t, t] })
    (e : TypeId) (i : TypeInfo) (size : Nat) (ht : P.underlying t = some (.slice e)) (hi : P.info? e = some i) (hsz : i.size = size)
    (g n cap : Nat) (cur : List Value) (hs : a.eval s = .slice (some ⟨g, 0, none⟩) n cap) (hg : Blk w g cur e)
    (ao : Option Addr) (m c : Nat) (news : List Value) (hx : a.eval x = .slice ao m c) (hl : news.length = m * size)
    (hnone : ao = none → m = 0 ∧ c = 0) (hnews : ∀ a, ao = some a → ∀ j u, news[j]? = some u → w.cell? (a.add j) = some u) (h1 : ∀ u ∈ news, u.oneCell' = true)
    (hroom : n + m ≤ cap) (hfit : n * size + news.length ≤ cur.length)
    (hK : ∀ w', Blk w' g (splice cur (n * size) news) e → Fr (fun k => k = g) w w' → wpList P ops Q rest (a.put o.dst (.slice (some ⟨g, 0, none⟩) (n + m) cap)) w') :
    wpList P ops Q (o :: rest) a w := by
  refine wpList_plain hgd fun K hK' => ?_
  obtain ⟨w', hr, hb, hf⟩ := run_append_blk (P := P) w t o.type e i size ht hi hsz g n cap cur hg ao m c news hl hnone hnews h1 hroom hfit
  unfold Oper.wp
  simp [execOp, hop, resolve, invoke, builtin, hs, hx, hr, Result.andThen]
  exact hK' _ _ (hK w' hb hf)

/-- 'p' laid in at place j. -/
def insAt (l : List Int) (j : Nat) (p : Int) : List Int := l.take j ++ p :: l.drop j
theorem insAt_length {l : List Int} {j : Nat} {p : Int} (h : j ≤ l.length) : (insAt l j p).length = l.length + 1 := by simp [insAt]; omega
theorem insAt_at {l : List Int} {j : Nat} {p : Int} (h : j ≤ l.length) : (insAt l j p)[j]? = some p := by
  rw [insAt, List.getElem?_append_right (by rw [List.length_take]; omega), List.length_take]
  rw [show j - min j l.length = 0 by omega]; rfl
theorem insAt_below {l : List Int} {j t : Nat} {p x : Int} (h : l[t]? = some x) (hj : t < j) (hl : j ≤ l.length) : (insAt l j p)[t]? = some x := by
  rw [insAt, List.getElem?_append_left (by rw [List.length_take]; omega), List.getElem?_take, if_pos hj]; exact h
theorem insAt_end (l : List Int) {n : Nat} (hn : l.length = n) (p : Int) : l ++ [p] = insAt l n p := by subst hn; simp [insAt]
theorem insAt_swap {l : List Int} {t : Nat} {p x : Int} (h : l[t]? = some x) : ((ints .i64 (insAt l (t + 1) p)).set t (.int .i64 p)).set (t + 1) (.int .i64 x) = ints .i64 (insAt l t p) := by
  have ht : t < l.length := (List.getElem?_eq_some_iff.1 h).1
  have e1 : l.drop t = x :: l.drop (t + 1) := by rw [List.drop_eq_getElem_cons ht]; congr 1; exact (List.getElem?_eq_some_iff.1 h).2
  have e2 : insAt l (t + 1) p = l.take t ++ x :: p :: l.drop (t + 1) := by rw [insAt, take_snoc h]; simp
  have e3 : insAt l t p = l.take t ++ p :: x :: l.drop (t + 1) := by rw [insAt, e1]
  have l1 : (ints .i64 (l.take t)).length = t := by rw [ints_length, List.length_take]; omega
  rw [e2, e3]
  simp only [ints, List.map_append, List.map_cons] at l1 ⊢
  rw [List.set_append_right _ _ (by omega), l1, Nat.sub_self, List.set_cons_zero, List.set_append_right _ _ (by omega), l1, show t + 1 - t = 1 by omega, List.set_cons_succ, List.set_cons_zero]

theorem zip_fst {lo hi : List Int} {j : Nat} {p q : Int} (h : lo.length = hi.length) : ((lo.zip hi).take j ++ (p, q) :: (lo.zip hi).drop j).map (·.1) = insAt lo j p := by
  have e : (lo.zip hi).map (·.1) = lo := List.map_fst_zip (by omega)
  rw [List.map_append, List.map_cons, List.map_take, List.map_drop, e]; rfl
theorem zip_snd {lo hi : List Int} {j : Nat} {p q : Int} (h : lo.length = hi.length) : ((lo.zip hi).take j ++ (p, q) :: (lo.zip hi).drop j).map (·.2) = insAt hi j q := by
  have e : (lo.zip hi).map (·.2) = hi := List.map_snd_zip (by omega)
  rw [List.map_append, List.map_cons, List.map_take, List.map_drop, e]; rfl
theorem zip_ins_fst {S : List (Int × Int)} {l : List Int} (h : S.map (·.1) = l) {t : Nat} {x : Int × Int} (hx : S[t]? = some x) : l[t]? = some x.1 := by rw [← h]; simp [hx]
theorem zip_ins_snd {S : List (Int × Int)} {l : List Int} (h : S.map (·.2) = l) {t : Nat} {x : Int × Int} (hx : S[t]? = some x) : l[t]? = some x.2 := by rw [← h]; simp [hx]

theorem made_cap {w1 : World} {base g n : Nat} {e : TypeId} (hown : w1.ownsRow base e 1 (.slice (some ⟨g, 0, none⟩) 0 n) 0 []) : ∃ r : List Value, r.length = n ∧ Blk w1 g r e := by
  rcases ownsRow_form hown with ⟨h, _⟩ | ⟨g', cap, rest, hv, _, _, _, hl, hl2, hblk⟩
  · simp at h
  · simp at hv
    obtain ⟨rfl, rfl⟩ := hv
    exact ⟨rest, by simpa using hl2, by simpa using hblk⟩

theorem push_splice {O : List Int} {r : List Value} {c m : Nat} {x : Int} (hO : O.length = c) (hr : c + r.length = m) (hlt : c < m) : splice (ints .i64 O ++ r) c [.int .i64 x] = ints .i64 (O ++ [x]) ++ r.drop 1 ∧ c + 1 + (r.drop 1).length = m := by
  refine ⟨?_, by rw [List.length_drop]; omega⟩
  have h := splice_mid (ints .i64 O) (r.take 1) (r.drop 1) [.int .i64 x] c (by rw [ints_length]; omega) (by rw [List.length_take]; simp; omega)
  rw [List.take_append_drop] at h
  rw [h]
  simp [ints]
theorem one_new (w : World) (x : Int) : ∀ j u, [Value.int .i64 x][j]? = some u → (w.alloc (.cells #[.int .i64 x] 3)).cell? ((⟨w.heap.size, 0, none⟩ : Addr).add j) = some u := by
  intro j u hj
  rw [Addr.add_lit, Nat.zero_add]
  exact (Blk.new w [.int .i64 x] 3).cell hj
theorem one_one (x : Int) : ∀ u ∈ [Value.int .i64 x], u.oneCell' = true := by intro u hu; simp at hu; subst hu; rfl
theorem join_set {O0 : List (Int × Int)} {p : Int × Int} {r : List Value} {u : Nat} {x : Int} (hu : O0.length = u) : (ints .i64 ((O0 ++ [p]).map (·.2)) ++ r).set u (.int .i64 x) = ints .i64 ((O0 ++ [(p.1, x)]).map (·.2)) ++ r := by
  subst hu
  simp only [ints, List.map_append, List.map_cons, List.map_nil, List.append_assoc, List.map_map]
  rw [List.set_append_right _ _ (by simp)]
  simp
theorem join_fst {O0 : List (Int × Int)} {p : Int × Int} {x : Int} : (O0 ++ [(p.1, x)]).map (·.1) = (O0 ++ [p]).map (·.1) := by simp

/-- What zzUnionModel comes to. -/
def UniPost (lo hi : List Int) (p q : Int) (n : Nat) (w : World) (e : Ending) (w' : World) : Prop :=
  ∃ (i g2 g3 : Nat) (O : List (Int × Int)), i ≤ n ∧ (∀ t x, lo[t]? = some x → i ≤ t → p < x) ∧ (∀ t x, lo[t]? = some x → i = t + 1 → x ≤ p) ∧
    O = mrg (((lo.zip hi).take i) ++ (p, q) :: (lo.zip hi).drop i) ∧ e = .returned (.tuple #[.slice (some ⟨g2, 0, none⟩) O.length (n + 1), .slice (some ⟨g3, 0, none⟩) O.length (n + 1)]) ∧
    Row .i64 w' (some ⟨g2, 0, none⟩) O.length (O.map (·.1)) ∧ Row .i64 w' (some ⟨g3, 0, none⟩) O.length (O.map (·.2)) ∧ Below w.heap.size w w'

set_option maxHeartbeats 4000000 in
set_option maxRecDepth 100000 in
theorem union17 (a0 a1 : Option Addr) (n c0 c1 : Nat) (lo hi : List Int) (p q : Int) (w : World) (h0 : Row .i64 w a0 n lo) (h1 : Row .i64 w a1 n hi) (hn : n ≤ 100000000) :
    Calls Try.prog 17 #[.slice a0 n c0, .slice a1 n c1, .int .i64 p, .int .i64 q] w (UniPost lo hi p q n w) := by
  obtain ⟨i0, hi0, hz0, hz1, hz2⟩ := info_parts info3
  have HI0 := hid hi0
  have HZ0 := hid hz0
  have HZ1 := hid hz1
  have HZ2 := hid hz2
  clear hi0 hz0 hz1 hz2
  have HLN := hid h0.len
  have HHN := hid h1.len
  go_enter Try.func17, Try.ntmps17
  go_wp2_with (at_make; refine wpList_make_full _ rfl _ _ 22 rfl w.heap.size 3 i0 (.int .i64 0) 1 Try.underlying22 HI0.out HZ0.out HZ1.out _ _ _ _ (n + 1) rfl rfl (by omega) (by omega) (by rw [HZ2.out]; omega) (by unfold maxLen; omega) (Nat.le_refl _) ?_)
  intro w1 hown1 hgrow1
  have hb1 : Below w.heap.size w w1 := (Below.refl _ _).grown hgrow1 (Nat.le_refl _) (by simp)
  have k1 := made_ints hown1
  have hz : w.heap.size < w1.heap.size := k1.lt
  clear hown1 hgrow1
  go_wp2_with (at_make; refine wpList_make_full _ rfl _ _ 22 rfl w.heap.size 3 i0 (.int .i64 0) 1 Try.underlying22 HI0.out HZ0.out HZ1.out _ _ _ _ (n + 1) rfl rfl (by omega) (by omega) (by rw [HZ2.out]; omega) (by unfold maxLen; omega) (by omega) ?_)
  intro w2 hown2 hgrow2
  have hb2 : Below w.heap.size w w2 := hb1.grown hgrow2 (by omega) (by simp)
  replace k1 := k1.grown hgrow2 (by simp)
  have k2 := made_ints hown2
  generalize w1.heap.size = N1 at hz k2 ⊢
  clear hown2 hgrow2 hb1
  go_wp2
  go_loopw [13] (fun i wr => ∃ k, k ≤ n ∧ i = .int .i64 k ∧ Blk wr w.heap.size (ints .i64 (lo.take k) ++ List.replicate (n + 1 - k) (.int .i64 0)) 3 ∧ Blk wr N1 (ints .i64 (hi.take k) ++ List.replicate (n + 1 - k) (.int .i64 0)) 3 ∧ Below w.heap.size w wr) (fun i _ => n - (intOf i).toNat)
  case atStart => exact ⟨0, Nat.zero_le _, rfl, by simpa [ints] using k1, by simpa [ints] using k2, hb2⟩
  case round =>
    clear k1 k2 hb2
    obtain ⟨k, hk, rfl, k1, k2, hb⟩ := hrel
    by_cases hlt : k < n
    · obtain ⟨b, off, x, rfl, e0, HX⟩ := (h0.keep hb).at k hlt
      obtain ⟨b', off', y, rfl, e1, HY⟩ := (h1.keep hb).at k hlt
      obtain ⟨m, hm⟩ : ∃ m, n + 1 - k = m + 1 := ⟨n - k, by omega⟩
      have HM : Hid (n + 1 - (k + 1) = m) := by show _ = _; omega
      rw [hm] at k1 k2
      clear hm
      have HL1 : Hid ((lo.take k).length = k) := by show _ = _; have := HLN.out; simp; omega
      have HL2 : Hid ((hi.take k).length = k) := by show _ = _; have := HHN.out; simp; omega
      have z1 := k1.cell (zero_at HL1.out)
      have z2 := k2.cell (zero_at HL2.out)
      have f1 := k1.free k
      have f2 := k2.free k
      have H1 : Hid (Blk ((wr.setCell ⟨w.heap.size, k, none⟩ (.int .i64 x)).setCell ⟨N1, k, none⟩ (.int .i64 y)) w.heap.size (ints .i64 (lo.take (k + 1)) ++ List.replicate (n + 1 - (k + 1)) (.int .i64 0)) 3) := by
        have := (k1.set k (.int .i64 x)).other (a := ⟨N1, k, none⟩) (.int .i64 y) (by simp; omega)
        rw [set_one HL1.out] at this
        rw [HM.out, take_snoc HX.out]
        exact this
      have H2 : Hid (Blk ((wr.setCell ⟨w.heap.size, k, none⟩ (.int .i64 x)).setCell ⟨N1, k, none⟩ (.int .i64 y)) N1 (ints .i64 (hi.take (k + 1)) ++ List.replicate (n + 1 - (k + 1)) (.int .i64 0)) 3) := by
        have := (k2.other (a := ⟨w.heap.size, k, none⟩) (.int .i64 x) (by simp; omega)).set k (.int .i64 y)
        rw [set_one HL2.out] at this
        rw [HM.out, take_snoc HY.out]
        exact this
      have hlt1 : b' < w.heap.size := by
        obtain ⟨b2, off2, e2, h2⟩ := h1.lt (by omega)
        simp at e2; omega
      have e2 : ∀ v, (wr.setCell ⟨w.heap.size, k, none⟩ v).cell? ⟨b', off' + k, none⟩ = some (.int .i64 y) := fun v => by
        have := ((h1.keep (hb.setCell (p := ⟨w.heap.size, k, none⟩) (Nat.le_refl _) v)).at k hlt)
        obtain ⟨b2, off2, y2, ea, ec, HY2⟩ := this
        simp at ea
        obtain ⟨rfl, rfl⟩ := ea
        rw [ec]
        have := HY2.out.symm.trans HY.out
        simp at this
        rw [this]
      clear k1 k2
      go_wp2
      go_roundw
      case rel => exact ⟨k + 1, by omega, by go_num, H1.out, H2.out, (hb.setCell (Nat.le_refl _) _).setCell (by simp; omega) _⟩
      case measure => simp [intOf]; omega
    · obtain rfl : k = n := by omega
      rw [List.take_of_length_le (by rw [HLN.out]; omega), show k + 1 - k = 0 + 1 by omega] at k1
      rw [List.take_of_length_le (by rw [HHN.out]; omega), show k + 1 - k = 0 + 1 by omega] at k2
      have z1 := k1.cell (zero_at HLN.out)
      have z2 := k2.cell (zero_at HHN.out)
      have f1 := k1.free k
      have f2 := k2.free k
      have H1 : Hid (Blk ((wr.setCell ⟨w.heap.size, k, none⟩ (.int .i64 p)).setCell ⟨N1, k, none⟩ (.int .i64 q)) w.heap.size (ints .i64 (lo ++ [p])) 3) := by
        have := (k1.set k (.int .i64 p)).other (a := ⟨N1, k, none⟩) (.int .i64 q) (by simp; omega)
        rw [set_one HLN.out] at this
        show Blk _ _ _ _
        simpa using this
      have H2 : Hid (Blk ((wr.setCell ⟨w.heap.size, k, none⟩ (.int .i64 p)).setCell ⟨N1, k, none⟩ (.int .i64 q)) N1 (ints .i64 (hi ++ [q])) 3) := by
        have := (k2.other (a := ⟨w.heap.size, k, none⟩) (.int .i64 p) (by simp; omega)).set k (.int .i64 q)
        rw [set_one HHN.out] at this
        show Blk _ _ _ _
        simpa using this
      have HB : Hid (Below w.heap.size w ((wr.setCell ⟨w.heap.size, k, none⟩ (.int .i64 p)).setCell ⟨N1, k, none⟩ (.int .i64 q))) := (hb.setCell (Nat.le_refl _) _).setCell (by simp; omega) _
      rw [insAt_end lo HLN.out] at H1
      rw [insAt_end hi HHN.out] at H2
      clear k1 k2 hb
      go_wp2
      go_loopw [14] (fun i wr => ∃ j, j ≤ k ∧ i = .int .i64 j ∧ Blk wr w.heap.size (ints .i64 (insAt lo j p)) 3 ∧ Blk wr N1 (ints .i64 (insAt hi j q)) 3 ∧ Below w.heap.size w wr ∧ Hid (∀ t x, lo[t]? = some x → j ≤ t → p < x)) (fun i _ => (intOf i).toNat)
      case atStart => exact ⟨k, Nat.le_refl _, rfl, H1.out, H2.out, HB.out, fun t x h ht => by have := (List.getElem?_eq_some_iff.1 h).1; rw [HLN.out] at this; omega⟩
      case round =>
        clear H1 H2 HB z1 z2 f1 f2
        obtain ⟨j, hj, rfl, k1, k2, hb, HP⟩ := hrel
        by_cases hcont : ∃ t x, j = t + 1 ∧ lo[t]? = some x ∧ p < x
        · obtain ⟨t, x, rfl, hx, hc⟩ := hcont
          obtain ⟨y, hy⟩ : ∃ y, hi[t]? = some y := ⟨_, List.getElem?_eq_getElem (by have := HHN.out; omega)⟩
          have a1 := k1.cell (ints_get (insAt_at (p := p) (by have := HLN.out; omega)))
          have a2 := k2.cell (ints_get (insAt_at (p := q) (by have := HHN.out; omega)))
          have b1 := k1.cell (ints_get (insAt_below (p := p) hx (Nat.lt_succ_self t) (by have := HLN.out; omega)))
          have b2 := k2.cell (ints_get (insAt_below (p := q) hy (Nat.lt_succ_self t) (by have := HHN.out; omega)))
          have HX := hid hx
          have HY := hid hy
          clear hx hy
          have g1 := k1.free t
          have g2 := k1.free (t + 1)
          have g3 := k2.free t
          have g4 := k2.free (t + 1)
          have H1 : Hid (∀ nq, Blk (((((wr.drewN nq).setCell ⟨w.heap.size, t, none⟩ (.int .i64 p)).setCell ⟨N1, t, none⟩ (.int .i64 q)).setCell ⟨w.heap.size, t + 1, none⟩ (.int .i64 x)).setCell ⟨N1, t + 1, none⟩ (.int .i64 y)) w.heap.size (ints .i64 (insAt lo t p)) 3) := by
            intro nq
            have := (((((k1.drewN nq).set t (.int .i64 p)).other (a := ⟨N1, t, none⟩) (.int .i64 q) (by simp; omega)).set (t + 1) (.int .i64 x)).other (a := ⟨N1, t + 1, none⟩) (.int .i64 y) (by simp; omega))
            rw [insAt_swap HX.out] at this
            exact this
          have H2 : Hid (∀ nq, Blk (((((wr.drewN nq).setCell ⟨w.heap.size, t, none⟩ (.int .i64 p)).setCell ⟨N1, t, none⟩ (.int .i64 q)).setCell ⟨w.heap.size, t + 1, none⟩ (.int .i64 x)).setCell ⟨N1, t + 1, none⟩ (.int .i64 y)) N1 (ints .i64 (insAt hi t q)) 3) := by
            intro nq
            have := (((((k2.drewN nq).other (a := ⟨w.heap.size, t, none⟩) (.int .i64 p) (by simp; omega)).set t (.int .i64 q)).other (a := ⟨w.heap.size, t + 1, none⟩) (.int .i64 x) (by simp; omega)).set (t + 1) (.int .i64 y))
            rw [insAt_swap HY.out] at this
            exact this
          clear k1 k2
          go_wp2
          go_quiet (fail)
          go_wp2
          go_roundw
          case rel => exact ⟨t, by omega, rfl, H1.out _, H2.out _, ((((below_drewN hb _).setCell (by simp) _).setCell (by simp; omega) _).setCell (by simp) _).setCell (by simp; omega) _, fun t' x' h ht => by
            by_cases e : t' = t
            · subst e; rw [HX.out] at h; cases h; exact hc
            · exact HP.out t' x' h (by omega)⟩
          case measure => simp [intOf]
        · obtain ⟨J, hJ⟩ : ∃ J, J = j := ⟨_, rfl⟩
          have HEND : Hid (∀ t x, lo[t]? = some x → J = t + 1 → x ≤ p) := by
            intro t x hx e
            rcases Int.lt_or_le p x with h | h
            · exact absurd ⟨t, x, by omega, hx, h⟩ hcont
            · exact h
          rcases j with _ | t
          · go_wp2
            go_quiet (fail)
            rw [← hJ] at k1 k2 HP hj
            clear hJ hcont
            go_wp2_with (at_make; refine wpList_make_own _ rfl _ _ 22 rfl w.heap.size 3 i0 (.int .i64 0) 1 Try.underlying22 HI0.out HZ0.out HZ1.out _ _ _ (k + 1) rfl rfl (by omega) (by rw [HZ2.out]; omega) (by unfold maxLen; omega) (by have := hb.size; simp; try omega) ?_)
            intro w3 hown3 hgrow3
            obtain ⟨r2, hr2, j2⟩ := made_cap hown3
            have hz2 : N1 < wr.heap.size := k2.lt
            have j0 := k1.grown (w' := w3) (row := none) ⟨hgrow3.os, hgrow3.tape, hgrow3.output, hgrow3.size, hgrow3.block⟩ (by simp)
            have j1 := k2.grown (w' := w3) (row := none) ⟨hgrow3.os, hgrow3.tape, hgrow3.output, hgrow3.size, hgrow3.block⟩ (by simp)
            have hb3 : Below w.heap.size w w3 := hb.grown (w' := w3) (row := none) ⟨hgrow3.os, hgrow3.tape, hgrow3.output, hgrow3.size, hgrow3.block⟩ hb.size (by simp)
            have hz3 : wr.heap.size < w3.heap.size := by have := j2.lt; simpa using this
            clear hown3 hgrow3
            go_wp2_with (at_make; refine wpList_make_own _ rfl _ _ 22 rfl w.heap.size 3 i0 (.int .i64 0) 1 Try.underlying22 HI0.out HZ0.out HZ1.out _ _ _ (k + 1) rfl rfl (by omega) (by rw [HZ2.out]; omega) (by unfold maxLen; omega) (by have := hb3.size; omega) ?_)
            intro w4 hown4 hgrow4
            obtain ⟨r3, hr3, j3⟩ := made_cap hown4
            replace j0 := j0.grown hgrow4 (by simp)
            replace j1 := j1.grown hgrow4 (by simp)
            replace j2 := j2.grown hgrow4 (by simp)
            have hb4 : Below w.heap.size w w4 := hb3.grown hgrow4 hb3.size (by simp)
            clear hown4 hgrow4 hb3
            obtain ⟨G2, hG2⟩ : ∃ G2, G2 = wr.heap.size := ⟨_, rfl⟩
            obtain ⟨G3, hG3⟩ : ∃ G3, G3 = w3.heap.size := ⟨_, rfl⟩
            simp only [World.heap_drewN, ← hG2] at j2 hz2 hz3 ⊢
            simp only [← hG3] at j3 hz3 ⊢
            obtain ⟨S, hS⟩ : ∃ S, S = (lo.zip hi).take J ++ (p, q) :: (lo.zip hi).drop J := ⟨_, rfl⟩
            have HSD := hid hS
            have HS1 : Hid (S.map (·.1) = insAt lo J p) := by show _ = _; rw [hS]; exact zip_fst (HLN.out.trans HHN.out.symm)
            have HS2 : Hid (S.map (·.2) = insAt hi J q) := by show _ = _; rw [hS]; exact zip_snd (HLN.out.trans HHN.out.symm)
            have HSL : Hid (S.length = k + 1) := by
              show _ = _
              have := congrArg List.length HS1.out
              rw [List.length_map, insAt_length (by rw [HLN.out]; exact hj), HLN.out] at this
              exact this
            have R2 := hid hr2
            have R3 := hid hr3
            clear hS hG2 hG3 hr2 hr3 k1 k2 hb
            go_wp2
            go_loopw [17, 18, 19] (fun vL vH i wr => ∃ (t c : Nat) (O : List (Int × Int)) (r2 r3 : List Value), t ≤ k + 1 ∧ i = .int .i64 t ∧ Hid (O = mrg (S.take t)) ∧ Hid (O.length = c) ∧ c ≤ t ∧ vL = .slice (some ⟨G2, 0, none⟩) c (k + 1) ∧ vH = .slice (some ⟨G3, 0, none⟩) c (k + 1) ∧ Blk wr w.heap.size (ints .i64 (insAt lo J p)) 3 ∧ Blk wr N1 (ints .i64 (insAt hi J q)) 3 ∧
                Blk wr G2 (ints .i64 (O.map (·.1)) ++ r2) 3 ∧ Hid (c + r2.length = k + 1) ∧ Blk wr G3 (ints .i64 (O.map (·.2)) ++ r3) 3 ∧ Hid (c + r3.length = k + 1) ∧ Below w.heap.size w wr) (fun _ _ i _ => k + 1 - (intOf i).toNat)
            case atStart => exact ⟨0, 0, [], r2, r3, Nat.zero_le _, rfl, rfl, rfl, Nat.le_refl _, rfl, rfl, j0, j1, by simpa [ints] using j2, by show _ = _; rw [R2.out]; omega, by simpa [ints] using j3, by show _ = _; rw [R3.out]; omega, hb4⟩
            case round =>
              clear j0 j1 j2 j3 hb4 R2 R3
              obtain ⟨t, c, O, r2, r3, ht, rfl, HM, HOC, hct, rfl, rfl, j0, j1, j2, R2, j3, R3, hb6⟩ := hrel
              by_cases hlt : t < k + 1
              · obtain ⟨x, hxt⟩ : ∃ x, S[t]? = some x := ⟨_, List.getElem?_eq_getElem (by rw [HSL.out]; exact hlt)⟩
                have x0 := j0.cell (ints_get (zip_ins_fst HS1.out hxt))
                have x1 := j1.cell (ints_get (zip_ins_snd HS2.out hxt))
                have HXT := hid hxt
                clear hxt
                rcases nil_or_last O with hO | ⟨O0, pp, hO⟩
                · obtain rfl : c = 0 := by rw [← HOC.out, hO]; rfl
                  have HPUSH : Hid (mstep O x = O ++ [x]) := by show _ = _; rw [hO]; rfl
                  clear hO
                  go_wp2
                  go_quiet (fail)
                  replace j0 := j0.drewN nq
                  replace j1 := j1.drewN nq
                  replace j2 := j2.drewN nq
                  replace j3 := j3.drewN nq
                  replace hb6 := below_drewN hb6 nq
                  go_wp2_with (first | (at_builtin; refine wpList_append_blk rfl (.tmp 151) (.tmp 156) 22 rfl 3 i0 1 Try.underlying22 HI0.out HZ1.out G2 0 (k + 1) _ rfl (j2.alloc _) (some ⟨_, 0, none⟩) 1 1 [.int .i64 x.1] rfl rfl (fun h => by cases h) (fun a h => by cases h; exact one_new _ _) (one_one _) (by omega) (by have := R2.out; have := HOC.out; rw [List.length_append, ints_length, List.length_map]; simp; omega) ?_))
                  intro w5 b5 f5
                  have HP2 := hid (push_splice (O := O.map (·.1)) (x := x.1) (by rw [List.length_map]; exact HOC.out) R2.out (by omega))
                  have HP3 := hid (push_splice (O := O.map (·.2)) (x := x.2) (by rw [List.length_map]; exact HOC.out) R3.out (by omega))
                  try simp only [Nat.mul_one] at b5
                  rw [HP2.out.1] at b5
                  have j1' := (j1.alloc (.cells #[.int .i64 x.1] 3)).fr f5 (by omega)
                  have j3' := (j3.alloc (.cells #[.int .i64 x.1] 3)).fr f5 (by omega)
                  have j0' := (j0.alloc (.cells #[.int .i64 x.1] 3)).fr f5 (by omega)
                  have hb5 : Below w.heap.size w w5 := (hb6.alloc hb6.size _).trans (f5.below (hb6.alloc hb6.size _).size (by intro k hk; have := hb6.size; omega))
                  have x2 := j1'.cell (ints_get (zip_ins_snd HS2.out HXT.out))
                  clear j0 j1 j2 j3 f5
                  go_wp2_with (first | (at_builtin; refine wpList_append_blk rfl (.tmp 158) (.tmp 163) 22 rfl 3 i0 1 Try.underlying22 HI0.out HZ1.out G3 0 (k + 1) _ rfl (j3'.alloc _) (some ⟨_, 0, none⟩) 1 1 [.int .i64 x.2] rfl rfl (fun h => by cases h) (fun a h => by cases h; exact one_new _ _) (one_one _) (by omega) (by have := R3.out; have := HOC.out; rw [List.length_append, ints_length, List.length_map]; simp; omega) ?_))
                  intro w6 b6 f6
                  try simp only [Nat.mul_one] at b6
                  rw [HP3.out.1] at b6
                  have j1'' := (j1'.alloc (.cells #[.int .i64 x.2] 3)).fr f6 (by omega)
                  have j2'' := (b5.alloc (.cells #[.int .i64 x.2] 3)).fr f6 (by omega)
                  have j0'' := (j0'.alloc (.cells #[.int .i64 x.2] 3)).fr f6 (by omega)
                  have hb7 : Below w.heap.size w w6 := (hb5.alloc hb5.size _).trans (f6.below (hb5.alloc hb5.size _).size (by intro k hk; have := hb5.size; omega))
                  have HM' : Hid (O ++ [x] = mrg (S.take (t + 1))) := by show _ = _; rw [mrg_snoc HXT.out, ← HM.out]; exact HPUSH.out.symm
                  clear j1' j3' j0' b5 f6 hb5
                  go_wp2
                  go_roundw
                  case rel => exact ⟨t + 1, 1, O ++ [x], _, _, by omega, by go_num, HM', by show _ = _; rw [List.length_append, HOC.out]; rfl, by omega, rfl, rfl, j0'', j1'', by simpa using j2'', HP2.out.2, by simpa using b6, HP3.out.2, hb7⟩
                  case measure => simp [intOf]; omega
                · obtain ⟨u, rfl⟩ : ∃ u, c = u + 1 := ⟨O0.length, by rw [← HOC.out, hO]; simp⟩
                  have HU : Hid (O0.length = u) := by show _ = _; have := HOC.out; rw [hO] at this; simpa using this
                  have y0 := j3.cell (j := u) (v := .int .i64 pp.2) (by rw [hO]; have := HU.out; rw [List.getElem?_append_left (by rw [ints_length]; simp; omega)]; exact ints_get (by simp [← this]))
                  have f0 := j3.free u
                  by_cases hjn : x.1 ≤ pp.2
                  · by_cases hgt : pp.2 < x.2
                    · have HM' : Hid (O0 ++ [(pp.1, x.2)] = mrg (S.take (t + 1))) := by show _ = _; rw [mrg_snoc HXT.out, ← HM.out, hO, mstep_join hjn, if_pos hgt]
                      have HJ : Hid (∀ q, Blk ((wr.drewN q).setCell ⟨G3, u, none⟩ (.int .i64 x.2)) G3 (ints .i64 ((O0 ++ [(pp.1, x.2)]).map (·.2)) ++ r3) 3) := by
                        intro q
                        have := (j3.drewN q).set u (.int .i64 x.2)
                        rw [hO, join_set HU.out] at this
                        exact this
                      have HJ2 : Hid (Blk wr G2 (ints .i64 ((O0 ++ [(pp.1, x.2)]).map (·.1)) ++ r2) 3) := by
                        show Blk _ _ _ _
                        rw [join_fst, ← hO]; exact j2
                      clear hO
                      go_wp2
                      go_quiet (fail)
                      go_wp2
                      go_quiet (fail)
                      go_wp2
                      go_roundw
                      case rel => exact ⟨t + 1, u + 1, _, r2, r3, by omega, by go_num, HM', by show _ = _; rw [List.length_append, HU.out]; rfl, by omega, rfl, rfl, (j0.drewN _).other _ (by simp; omega), (j1.drewN _).other _ (by simp; omega), (HJ2.out.drewN _).other _ (by simp; omega), R2, by simpa using HJ.out _, R3, by simpa using (below_drewN hb6 _).setCell (p := ⟨G3, u, none⟩) (by have := hb6.size; simp; omega) _⟩
                      case measure => simp [intOf]; omega
                    · have HM' : Hid (O = mrg (S.take (t + 1))) := by show _ = _; rw [mrg_snoc HXT.out, ← HM.out, hO, mstep_join hjn, if_neg hgt]
                      clear hO
                      go_wp2
                      go_quiet (fail)
                      go_wp2
                      go_quiet (fail)
                      go_wp2
                      go_roundw
                      case rel => exact ⟨t + 1, u + 1, O, r2, r3, by omega, by go_num, HM', HOC, by omega, rfl, rfl, j0.drewN _, j1.drewN _, j2.drewN _, R2, j3.drewN _, R3, below_drewN hb6 _⟩
                      case measure => simp [intOf]; omega
                  · have HPUSH : Hid (mstep O x = O ++ [x]) := by show _ = _; rw [hO]; exact mstep_push hjn
                    clear hO
                    have hdj : decide (x.1 ≤ pp.2) = false := by simpa using hjn
                    go_wp2
                    go_quiet (fail)
                    replace j0 := j0.drewN nq
                    replace j1 := j1.drewN nq
                    replace j2 := j2.drewN nq
                    replace j3 := j3.drewN nq
                    replace hb6 := below_drewN hb6 nq
                    go_wp2_with (first | (at_builtin; refine wpList_append_blk rfl (.tmp 151) (.tmp 156) 22 rfl 3 i0 1 Try.underlying22 HI0.out HZ1.out G2 (u + 1) (k + 1) _ rfl (j2.alloc _) (some ⟨_, 0, none⟩) 1 1 [.int .i64 x.1] rfl rfl (fun h => by cases h) (fun a h => by cases h; exact one_new _ _) (one_one _) (by omega) (by have := R2.out; have := HOC.out; rw [List.length_append, ints_length, List.length_map]; simp; omega) ?_))
                    intro w5 b5 f5
                    have HP2 := hid (push_splice (O := O.map (·.1)) (x := x.1) (by rw [List.length_map]; exact HOC.out) R2.out (by omega))
                    have HP3 := hid (push_splice (O := O.map (·.2)) (x := x.2) (by rw [List.length_map]; exact HOC.out) R3.out (by omega))
                    try simp only [Nat.mul_one] at b5
                    rw [HP2.out.1] at b5
                    have j1' := (j1.alloc (.cells #[.int .i64 x.1] 3)).fr f5 (by omega)
                    have j3' := (j3.alloc (.cells #[.int .i64 x.1] 3)).fr f5 (by omega)
                    have j0' := (j0.alloc (.cells #[.int .i64 x.1] 3)).fr f5 (by omega)
                    have hb5 : Below w.heap.size w w5 := (hb6.alloc hb6.size _).trans (f5.below (hb6.alloc hb6.size _).size (by intro k hk; have := hb6.size; omega))
                    have x2 := j1'.cell (ints_get (zip_ins_snd HS2.out HXT.out))
                    clear j0 j1 j2 j3 f5
                    go_wp2_with (first | (at_builtin; refine wpList_append_blk rfl (.tmp 158) (.tmp 163) 22 rfl 3 i0 1 Try.underlying22 HI0.out HZ1.out G3 (u + 1) (k + 1) _ rfl (j3'.alloc _) (some ⟨_, 0, none⟩) 1 1 [.int .i64 x.2] rfl rfl (fun h => by cases h) (fun a h => by cases h; exact one_new _ _) (one_one _) (by omega) (by have := R3.out; have := HOC.out; rw [List.length_append, ints_length, List.length_map]; simp; omega) ?_))
                    intro w6 b6 f6
                    try simp only [Nat.mul_one] at b6
                    rw [HP3.out.1] at b6
                    have j1'' := (j1'.alloc (.cells #[.int .i64 x.2] 3)).fr f6 (by omega)
                    have j2'' := (b5.alloc (.cells #[.int .i64 x.2] 3)).fr f6 (by omega)
                    have j0'' := (j0'.alloc (.cells #[.int .i64 x.2] 3)).fr f6 (by omega)
                    have hb7 : Below w.heap.size w w6 := (hb5.alloc hb5.size _).trans (f6.below (hb5.alloc hb5.size _).size (by intro k hk; have := hb5.size; omega))
                    have HM' : Hid (O ++ [x] = mrg (S.take (t + 1))) := by show _ = _; rw [mrg_snoc HXT.out, ← HM.out]; exact HPUSH.out.symm
                    clear j1' j3' j0' b5 f6 hb5
                    go_wp2
                    go_roundw
                    case rel => exact ⟨t + 1, u + 1 + 1, O ++ [x], _, _, by omega, by go_num, HM', by show _ = _; rw [List.length_append, HOC.out]; rfl, by omega, rfl, rfl, j0'', j1'', by simpa using j2'', HP2.out.2, by simpa using b6, HP3.out.2, hb7⟩
                    case measure => simp [intOf]; omega
              · go_wp2
                go_ret2
                obtain rfl : t = k + 1 := by omega
                have hM := HM.out
                rw [List.take_of_length_le (by rw [HSL.out]; omega), HSD.out] at hM
                have hc := HOC.out
                subst hc
                exact ⟨J, G2, G3, O, hj, HP.out, HEND.out, hM, rfl, Row.of_blk j2 (by simp), Row.of_blk j3 (by simp), hb6⟩
          · obtain ⟨x, hx⟩ : ∃ x, lo[t]? = some x := ⟨_, List.getElem?_eq_getElem (by have := HLN.out; omega)⟩
            have a1 := k1.cell (ints_get (insAt_at (p := p) (by have := HLN.out; omega)))
            have b1 := k1.cell (ints_get (insAt_below (p := p) hx (Nat.lt_succ_self t) (by have := HLN.out; omega)))
            have hxp : x ≤ p := HEND.out t x hx hJ
            have hdp : decide (p < x) = false := by simp; omega
            clear hx
            go_wp2
            go_quiet (fail)
            rw [← hJ] at k1 k2 HP hj
            clear hJ hcont a1 b1
            go_wp2_with (at_make; refine wpList_make_own _ rfl _ _ 22 rfl w.heap.size 3 i0 (.int .i64 0) 1 Try.underlying22 HI0.out HZ0.out HZ1.out _ _ _ (k + 1) rfl rfl (by omega) (by rw [HZ2.out]; omega) (by unfold maxLen; omega) (by have := hb.size; simp; try omega) ?_)
            intro w3 hown3 hgrow3
            obtain ⟨r2, hr2, j2⟩ := made_cap hown3
            have hz2 : N1 < wr.heap.size := k2.lt
            have j0 := k1.grown (w' := w3) (row := none) ⟨hgrow3.os, hgrow3.tape, hgrow3.output, hgrow3.size, hgrow3.block⟩ (by simp)
            have j1 := k2.grown (w' := w3) (row := none) ⟨hgrow3.os, hgrow3.tape, hgrow3.output, hgrow3.size, hgrow3.block⟩ (by simp)
            have hb3 : Below w.heap.size w w3 := hb.grown (w' := w3) (row := none) ⟨hgrow3.os, hgrow3.tape, hgrow3.output, hgrow3.size, hgrow3.block⟩ hb.size (by simp)
            have hz3 : wr.heap.size < w3.heap.size := by have := j2.lt; simpa using this
            clear hown3 hgrow3
            go_wp2_with (at_make; refine wpList_make_own _ rfl _ _ 22 rfl w.heap.size 3 i0 (.int .i64 0) 1 Try.underlying22 HI0.out HZ0.out HZ1.out _ _ _ (k + 1) rfl rfl (by omega) (by rw [HZ2.out]; omega) (by unfold maxLen; omega) (by have := hb3.size; omega) ?_)
            intro w4 hown4 hgrow4
            obtain ⟨r3, hr3, j3⟩ := made_cap hown4
            replace j0 := j0.grown hgrow4 (by simp)
            replace j1 := j1.grown hgrow4 (by simp)
            replace j2 := j2.grown hgrow4 (by simp)
            have hb4 : Below w.heap.size w w4 := hb3.grown hgrow4 hb3.size (by simp)
            clear hown4 hgrow4 hb3
            obtain ⟨G2, hG2⟩ : ∃ G2, G2 = wr.heap.size := ⟨_, rfl⟩
            obtain ⟨G3, hG3⟩ : ∃ G3, G3 = w3.heap.size := ⟨_, rfl⟩
            simp only [World.heap_drewN, ← hG2] at j2 hz2 hz3 ⊢
            simp only [← hG3] at j3 hz3 ⊢
            obtain ⟨S, hS⟩ : ∃ S, S = (lo.zip hi).take J ++ (p, q) :: (lo.zip hi).drop J := ⟨_, rfl⟩
            have HSD := hid hS
            have HS1 : Hid (S.map (·.1) = insAt lo J p) := by show _ = _; rw [hS]; exact zip_fst (HLN.out.trans HHN.out.symm)
            have HS2 : Hid (S.map (·.2) = insAt hi J q) := by show _ = _; rw [hS]; exact zip_snd (HLN.out.trans HHN.out.symm)
            have HSL : Hid (S.length = k + 1) := by
              show _ = _
              have := congrArg List.length HS1.out
              rw [List.length_map, insAt_length (by rw [HLN.out]; exact hj), HLN.out] at this
              exact this
            have R2 := hid hr2
            have R3 := hid hr3
            clear hS hG2 hG3 hr2 hr3 k1 k2 hb
            go_wp2
            go_loopw [17, 18, 19] (fun vL vH i wr => ∃ (t c : Nat) (O : List (Int × Int)) (r2 r3 : List Value), t ≤ k + 1 ∧ i = .int .i64 t ∧ Hid (O = mrg (S.take t)) ∧ Hid (O.length = c) ∧ c ≤ t ∧ vL = .slice (some ⟨G2, 0, none⟩) c (k + 1) ∧ vH = .slice (some ⟨G3, 0, none⟩) c (k + 1) ∧ Blk wr w.heap.size (ints .i64 (insAt lo J p)) 3 ∧ Blk wr N1 (ints .i64 (insAt hi J q)) 3 ∧
                Blk wr G2 (ints .i64 (O.map (·.1)) ++ r2) 3 ∧ Hid (c + r2.length = k + 1) ∧ Blk wr G3 (ints .i64 (O.map (·.2)) ++ r3) 3 ∧ Hid (c + r3.length = k + 1) ∧ Below w.heap.size w wr) (fun _ _ i _ => k + 1 - (intOf i).toNat)
            case atStart => exact ⟨0, 0, [], r2, r3, Nat.zero_le _, rfl, rfl, rfl, Nat.le_refl _, rfl, rfl, j0, j1, by simpa [ints] using j2, by show _ = _; rw [R2.out]; omega, by simpa [ints] using j3, by show _ = _; rw [R3.out]; omega, hb4⟩
            case round =>
              clear j0 j1 j2 j3 hb4 R2 R3
              obtain ⟨t, c, O, r2, r3, ht, rfl, HM, HOC, hct, rfl, rfl, j0, j1, j2, R2, j3, R3, hb6⟩ := hrel
              by_cases hlt : t < k + 1
              · obtain ⟨x, hxt⟩ : ∃ x, S[t]? = some x := ⟨_, List.getElem?_eq_getElem (by rw [HSL.out]; exact hlt)⟩
                have x0 := j0.cell (ints_get (zip_ins_fst HS1.out hxt))
                have x1 := j1.cell (ints_get (zip_ins_snd HS2.out hxt))
                have HXT := hid hxt
                clear hxt
                rcases nil_or_last O with hO | ⟨O0, pp, hO⟩
                · obtain rfl : c = 0 := by rw [← HOC.out, hO]; rfl
                  have HPUSH : Hid (mstep O x = O ++ [x]) := by show _ = _; rw [hO]; rfl
                  clear hO
                  go_wp2
                  go_quiet (fail)
                  replace j0 := j0.drewN nq
                  replace j1 := j1.drewN nq
                  replace j2 := j2.drewN nq
                  replace j3 := j3.drewN nq
                  replace hb6 := below_drewN hb6 nq
                  go_wp2_with (first | (at_builtin; refine wpList_append_blk rfl (.tmp 151) (.tmp 156) 22 rfl 3 i0 1 Try.underlying22 HI0.out HZ1.out G2 0 (k + 1) _ rfl (j2.alloc _) (some ⟨_, 0, none⟩) 1 1 [.int .i64 x.1] rfl rfl (fun h => by cases h) (fun a h => by cases h; exact one_new _ _) (one_one _) (by omega) (by have := R2.out; have := HOC.out; rw [List.length_append, ints_length, List.length_map]; simp; omega) ?_))
                  intro w5 b5 f5
                  have HP2 := hid (push_splice (O := O.map (·.1)) (x := x.1) (by rw [List.length_map]; exact HOC.out) R2.out (by omega))
                  have HP3 := hid (push_splice (O := O.map (·.2)) (x := x.2) (by rw [List.length_map]; exact HOC.out) R3.out (by omega))
                  try simp only [Nat.mul_one] at b5
                  rw [HP2.out.1] at b5
                  have j1' := (j1.alloc (.cells #[.int .i64 x.1] 3)).fr f5 (by omega)
                  have j3' := (j3.alloc (.cells #[.int .i64 x.1] 3)).fr f5 (by omega)
                  have j0' := (j0.alloc (.cells #[.int .i64 x.1] 3)).fr f5 (by omega)
                  have hb5 : Below w.heap.size w w5 := (hb6.alloc hb6.size _).trans (f5.below (hb6.alloc hb6.size _).size (by intro k hk; have := hb6.size; omega))
                  have x2 := j1'.cell (ints_get (zip_ins_snd HS2.out HXT.out))
                  clear j0 j1 j2 j3 f5
                  go_wp2_with (first | (at_builtin; refine wpList_append_blk rfl (.tmp 158) (.tmp 163) 22 rfl 3 i0 1 Try.underlying22 HI0.out HZ1.out G3 0 (k + 1) _ rfl (j3'.alloc _) (some ⟨_, 0, none⟩) 1 1 [.int .i64 x.2] rfl rfl (fun h => by cases h) (fun a h => by cases h; exact one_new _ _) (one_one _) (by omega) (by have := R3.out; have := HOC.out; rw [List.length_append, ints_length, List.length_map]; simp; omega) ?_))
                  intro w6 b6 f6
                  try simp only [Nat.mul_one] at b6
                  rw [HP3.out.1] at b6
                  have j1'' := (j1'.alloc (.cells #[.int .i64 x.2] 3)).fr f6 (by omega)
                  have j2'' := (b5.alloc (.cells #[.int .i64 x.2] 3)).fr f6 (by omega)
                  have j0'' := (j0'.alloc (.cells #[.int .i64 x.2] 3)).fr f6 (by omega)
                  have hb7 : Below w.heap.size w w6 := (hb5.alloc hb5.size _).trans (f6.below (hb5.alloc hb5.size _).size (by intro k hk; have := hb5.size; omega))
                  have HM' : Hid (O ++ [x] = mrg (S.take (t + 1))) := by show _ = _; rw [mrg_snoc HXT.out, ← HM.out]; exact HPUSH.out.symm
                  clear j1' j3' j0' b5 f6 hb5
                  go_wp2
                  go_roundw
                  case rel => exact ⟨t + 1, 1, O ++ [x], _, _, by omega, by go_num, HM', by show _ = _; rw [List.length_append, HOC.out]; rfl, by omega, rfl, rfl, j0'', j1'', by simpa using j2'', HP2.out.2, by simpa using b6, HP3.out.2, hb7⟩
                  case measure => simp [intOf]; omega
                · obtain ⟨u, rfl⟩ : ∃ u, c = u + 1 := ⟨O0.length, by rw [← HOC.out, hO]; simp⟩
                  have HU : Hid (O0.length = u) := by show _ = _; have := HOC.out; rw [hO] at this; simpa using this
                  have y0 := j3.cell (j := u) (v := .int .i64 pp.2) (by rw [hO]; have := HU.out; rw [List.getElem?_append_left (by rw [ints_length]; simp; omega)]; exact ints_get (by simp [← this]))
                  have f0 := j3.free u
                  by_cases hjn : x.1 ≤ pp.2
                  · by_cases hgt : pp.2 < x.2
                    · have HM' : Hid (O0 ++ [(pp.1, x.2)] = mrg (S.take (t + 1))) := by show _ = _; rw [mrg_snoc HXT.out, ← HM.out, hO, mstep_join hjn, if_pos hgt]
                      have HJ : Hid (∀ q, Blk ((wr.drewN q).setCell ⟨G3, u, none⟩ (.int .i64 x.2)) G3 (ints .i64 ((O0 ++ [(pp.1, x.2)]).map (·.2)) ++ r3) 3) := by
                        intro q
                        have := (j3.drewN q).set u (.int .i64 x.2)
                        rw [hO, join_set HU.out] at this
                        exact this
                      have HJ2 : Hid (Blk wr G2 (ints .i64 ((O0 ++ [(pp.1, x.2)]).map (·.1)) ++ r2) 3) := by
                        show Blk _ _ _ _
                        rw [join_fst, ← hO]; exact j2
                      clear hO
                      go_wp2
                      go_quiet (fail)
                      go_wp2
                      go_quiet (fail)
                      go_wp2
                      go_roundw
                      case rel => exact ⟨t + 1, u + 1, _, r2, r3, by omega, by go_num, HM', by show _ = _; rw [List.length_append, HU.out]; rfl, by omega, rfl, rfl, (j0.drewN _).other _ (by simp; omega), (j1.drewN _).other _ (by simp; omega), (HJ2.out.drewN _).other _ (by simp; omega), R2, by simpa using HJ.out _, R3, by simpa using (below_drewN hb6 _).setCell (p := ⟨G3, u, none⟩) (by have := hb6.size; simp; omega) _⟩
                      case measure => simp [intOf]; omega
                    · have HM' : Hid (O = mrg (S.take (t + 1))) := by show _ = _; rw [mrg_snoc HXT.out, ← HM.out, hO, mstep_join hjn, if_neg hgt]
                      clear hO
                      go_wp2
                      go_quiet (fail)
                      go_wp2
                      go_quiet (fail)
                      go_wp2
                      go_roundw
                      case rel => exact ⟨t + 1, u + 1, O, r2, r3, by omega, by go_num, HM', HOC, by omega, rfl, rfl, j0.drewN _, j1.drewN _, j2.drewN _, R2, j3.drewN _, R3, below_drewN hb6 _⟩
                      case measure => simp [intOf]; omega
                  · have HPUSH : Hid (mstep O x = O ++ [x]) := by show _ = _; rw [hO]; exact mstep_push hjn
                    clear hO
                    have hdj : decide (x.1 ≤ pp.2) = false := by simpa using hjn
                    go_wp2
                    go_quiet (fail)
                    replace j0 := j0.drewN nq
                    replace j1 := j1.drewN nq
                    replace j2 := j2.drewN nq
                    replace j3 := j3.drewN nq
                    replace hb6 := below_drewN hb6 nq
                    go_wp2_with (first | (at_builtin; refine wpList_append_blk rfl (.tmp 151) (.tmp 156) 22 rfl 3 i0 1 Try.underlying22 HI0.out HZ1.out G2 (u + 1) (k + 1) _ rfl (j2.alloc _) (some ⟨_, 0, none⟩) 1 1 [.int .i64 x.1] rfl rfl (fun h => by cases h) (fun a h => by cases h; exact one_new _ _) (one_one _) (by omega) (by have := R2.out; have := HOC.out; rw [List.length_append, ints_length, List.length_map]; simp; omega) ?_))
                    intro w5 b5 f5
                    have HP2 := hid (push_splice (O := O.map (·.1)) (x := x.1) (by rw [List.length_map]; exact HOC.out) R2.out (by omega))
                    have HP3 := hid (push_splice (O := O.map (·.2)) (x := x.2) (by rw [List.length_map]; exact HOC.out) R3.out (by omega))
                    try simp only [Nat.mul_one] at b5
                    rw [HP2.out.1] at b5
                    have j1' := (j1.alloc (.cells #[.int .i64 x.1] 3)).fr f5 (by omega)
                    have j3' := (j3.alloc (.cells #[.int .i64 x.1] 3)).fr f5 (by omega)
                    have j0' := (j0.alloc (.cells #[.int .i64 x.1] 3)).fr f5 (by omega)
                    have hb5 : Below w.heap.size w w5 := (hb6.alloc hb6.size _).trans (f5.below (hb6.alloc hb6.size _).size (by intro k hk; have := hb6.size; omega))
                    have x2 := j1'.cell (ints_get (zip_ins_snd HS2.out HXT.out))
                    clear j0 j1 j2 j3 f5
                    go_wp2_with (first | (at_builtin; refine wpList_append_blk rfl (.tmp 158) (.tmp 163) 22 rfl 3 i0 1 Try.underlying22 HI0.out HZ1.out G3 (u + 1) (k + 1) _ rfl (j3'.alloc _) (some ⟨_, 0, none⟩) 1 1 [.int .i64 x.2] rfl rfl (fun h => by cases h) (fun a h => by cases h; exact one_new _ _) (one_one _) (by omega) (by have := R3.out; have := HOC.out; rw [List.length_append, ints_length, List.length_map]; simp; omega) ?_))
                    intro w6 b6 f6
                    try simp only [Nat.mul_one] at b6
                    rw [HP3.out.1] at b6
                    have j1'' := (j1'.alloc (.cells #[.int .i64 x.2] 3)).fr f6 (by omega)
                    have j2'' := (b5.alloc (.cells #[.int .i64 x.2] 3)).fr f6 (by omega)
                    have j0'' := (j0'.alloc (.cells #[.int .i64 x.2] 3)).fr f6 (by omega)
                    have hb7 : Below w.heap.size w w6 := (hb5.alloc hb5.size _).trans (f6.below (hb5.alloc hb5.size _).size (by intro k hk; have := hb5.size; omega))
                    have HM' : Hid (O ++ [x] = mrg (S.take (t + 1))) := by show _ = _; rw [mrg_snoc HXT.out, ← HM.out]; exact HPUSH.out.symm
                    clear j1' j3' j0' b5 f6 hb5
                    go_wp2
                    go_roundw
                    case rel => exact ⟨t + 1, u + 1 + 1, O ++ [x], _, _, by omega, by go_num, HM', by show _ = _; rw [List.length_append, HOC.out]; rfl, by omega, rfl, rfl, j0'', j1'', by simpa using j2'', HP2.out.2, by simpa using b6, HP3.out.2, hb7⟩
                    case measure => simp [intOf]; omega
              · go_wp2
                go_ret2
                obtain rfl : t = k + 1 := by omega
                have hM := HM.out
                rw [List.take_of_length_le (by rw [HSL.out]; omega), HSD.out] at hM
                have hc := HOC.out
                subst hc
                exact ⟨J, G2, G3, O, hj, HP.out, HEND.out, hM, rfl, Row.of_blk j2 (by simp), Row.of_blk j3 (by simp), hb6⟩

end Go.Proofs.Qxb6600404a
