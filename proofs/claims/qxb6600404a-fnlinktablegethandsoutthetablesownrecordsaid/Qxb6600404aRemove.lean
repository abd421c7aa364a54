/-
  Seat b6600404a: (*runSet).remove.
-/
import Derived.Test.Qxb6600404aPlain
import Derived.Deep.RegionHeld3
import Derived.Deep.DeepMust
namespace Go.Proofs.Qxb6600404a
open Go.RowKit
set_option linter.unusedVariables false
set_option linter.unusedSimpArgs false

/-- What is left of a run when j is taken out of it. -/
def remMid (q : Int × Int) (j : Int) : List (Int × Int) := (if q.1 < j then [(q.1, j)] else []) ++ (if j + 1 < q.2 then [(j + 1, q.2)] else [])

def Bd (rs : List (Int × Int)) : Prop := ∀ r ∈ rs, -1152921504606846975 ≤ r.1 ∧ r.2 ≤ 1152921504606846975

/-- What remove comes to. -/
def RemPost (mk : Value → Value → List Value) (T : TypeId) (B s : Nat) (v : Value) (rs : List (Int × Int)) (n j : Int) (w : World) (e : Ending) (w' : World) : Prop :=
  ∃ (r : Bool) (v' : Value) (rs' : List (Int × Int)) (n' : Int), e = .returned (.bool r) ∧ RS mk T w' B s v' rs' n' ∧ Fr (fun k => k = s ∨ v.ownBlock = some k) w w' ∧ (v'.ownBlock = v.ownBlock ∨ ∃ g, v'.ownBlock = some g ∧ w.heap.size ≤ g) ∧
    ((r = false ∧ rs' = rs ∧ n' = n ∧ ∀ q ∈ rs, ¬ (q.1 ≤ j ∧ j < q.2)) ∨
     (r = true ∧ n' = n - 1 ∧ ∃ L q R, rs = L ++ q :: R ∧ q.1 ≤ j ∧ j < q.2 ∧ rs' = L ++ remMid q j ++ R))

/-- No run holds j. -/
theorem find_none {rs : List (Int × Int)} {j : Int} {k : Nat} (hp : Pw rs) (h : FindAt rs j k) (hno : ¬ ∃ r, rs[k]? = some r ∧ r.1 ≤ j) : ∀ q ∈ rs, ¬ (q.1 ≤ j ∧ j < q.2) := by
  rintro q hq ⟨h1, h2⟩
  obtain ⟨i, hi, rfl⟩ := List.mem_iff_getElem.1 hq
  have hki : k ≤ i := by
    rcases Nat.lt_or_ge i k with h' | h'
    · have := (h.2 i _ (List.getElem?_eq_getElem hi)).1 h'; omega
    · exact h'
  by_cases e : k = i
  · subst e; exact hno ⟨_, List.getElem?_eq_getElem hi, h1⟩
  · have hk : k < rs.length := by omega
    have h3 := (List.pairwise_iff_getElem.1 hp.1) k i hk hi (by omega)
    have h4 := (h.2 k _ (List.getElem?_eq_getElem hk)).2 (by omega)
    omega

theorem slice_form {w : World} {B n : Nat} {v : Value} {xs : List Value} (h : w.ownsRow B 68 2 v n xs) (hn : 0 < n) : ∃ g cap, v = .slice (some ⟨g, 0, none⟩) n cap := by
  rcases ownsRow_form h with ⟨_, h0, _⟩ | ⟨g', cap', _, hv', _⟩
  · omega
  · exact ⟨g', cap', hv'⟩
theorem RS.alloc {mk : Value → Value → List Value} {T : TypeId} {w : World} {B s : Nat} {v : Value} {rs : List (Int × Int)} {n : Int} (h : RS mk T w B s v rs n) (o : Obj) : RS mk T (w.alloc o) B s v rs n := ⟨h.hdr.alloc o, h.row.alloc o⟩

section
variable {mk : Value → Value → List Value} {T : TypeId} {o : Nat}

set_option maxHeartbeats 4000000 in
set_option maxRecDepth 100000 in
theorem rem_nil (H : Hdr mk o) (hT : T ≠ 68) (B s : Nat) (n j : Int) (w : World) (hrs : RS mk T w B s (.slice none 0 0) [] n) :
    Calls Try.prog 56 #[.pointer (some ⟨s, o, none⟩), .int .i64 j] w (RemPost mk T B s (.slice none 0 0) [] n j w) := by
  go_enter Try.func56, Try.ntmps56
  go_wp2_with fail
  refine (find57 B s o _ [] j w (by simp) (fun i i' r r' _ h => by simp at h) hrs.row (hrs.hdr.cell (H.at0 _ _))).mono ?_
  rintro e w1 ⟨k, ok, rfl, hf, hok, hb⟩
  obtain rfl : ok = false := by
    cases ok with
    | false => rfl
    | true => obtain ⟨r, hr, hr2⟩ := hok.1 rfl; simp at hr
  clear hok hf
  go_wp2
  go_ret
  exact ⟨false, _, _, _, rfl, hrs.keep hb, Fr.of_below hb, .inl rfl, .inl ⟨rfl, rfl, rfl, by simp⟩⟩

set_option maxHeartbeats 4000000 in
set_option maxRecDepth 100000 in
theorem rem_slice (H : Hdr mk o) (hT : T ≠ 68) (B s g N cap : Nat) (rest : List Value) (rs : List (Int × Int)) (n j : Int) (w : World) (hB : B ≤ g) (hBs : B ≤ s) (hrs : RS mk T w B s (.slice (some ⟨g, 0, none⟩) N cap) rs n) (hN : rs.length = N) (hpw : Pw rs) (hbd : Bd rs) (hlen : N ≤ 100000000) (hn0 : 0 ≤ n) (hn1 : n ≤ 4611686018427387903)
    (hnc : N ≤ cap) (hcm : cap ≤ maxLen) (hl2 : (flat rs).length + rest.length = cap * 2) (hblk : Blk w g (flat rs ++ rest) 68) :
    Calls Try.prog 56 #[.pointer (some ⟨s, o, none⟩), .int .i64 j] w (RemPost mk T B s (.slice (some ⟨g, 0, none⟩) N cap) rs n j w) := by
  unfold maxLen at hcm
  have HN := hid hN
  have HL2 := hid hl2
  clear hl2
  go_enter Try.func56, Try.ntmps56
  go_wp2_with fail
  refine (find57 B s o _ rs j w (by omega) hpw.asc hrs.row (hrs.hdr.cell (H.at0 _ _))).mono ?_
  clear hN
  rintro e w1 ⟨k, ok, rfl, hf, hok, hb⟩
  have hrs1 := hrs.keep hb
  have e0 := hrs1.hdr.cell (H.at0 _ _)
  have e1 := hrs1.hdr.cell (H.at1 _ _)
  have f0 := hrs1.hdr.free o
  have f1 := hrs1.hdr.free (o + 1)
  have hblk1 := hblk.keep hb
  have hne : s ≠ g := fun e => row_ne hT hrs1.hdr hrs1.row (by simp [Value.ownBlock, e])
  have hBw : B ≤ w1.heap.size := Nat.le_trans (Nat.le_trans hBs (Nat.le_of_lt hrs.hdr.lt)) hb.size
  have hsw : s < w1.heap.size := hrs1.hdr.lt
  have hgw : g < w1.heap.size := hblk1.lt
  cases ok with
  | false =>
    have HNO := hid (find_none hpw hf (fun h => by have := hok.2 h; cases this))
    clear hok hf hpw hbd
    go_wp2
    go_ret
    exact ⟨false, _, _, _, rfl, hrs1, Fr.of_below hb, .inl rfl, .inl ⟨rfl, rfl, rfl, HNO.out⟩⟩
  | true =>
    obtain ⟨L, R, he, hLk, hL, hR⟩ := find_split hf
    obtain ⟨q, hq, hq1⟩ := hok.1 rfl
    obtain ⟨R0, rfl⟩ : ∃ R0, R = q :: R0 := by
      rw [he, List.getElem?_append_right (by omega), hLk, Nat.sub_self] at hq
      cases R with
      | nil => simp at hq
      | cons a t => simp at hq; exact ⟨t, by rw [hq]⟩
    have hq2 := hR q R0 rfl
    have hqb := hbd q (by rw [he]; simp)
    obtain ⟨x, y⟩ := q
    simp only at hq1 hq2 hqb
    obtain ⟨c0, c1⟩ := run_cells hblk1 hq
    have hlt : k < N := by have e1 := HN.out; rw [he] at e1; simp at e1; omega
    have HQ := hid hq
    have HE := hid he
    have HLk := hid hLk
    have g0 := hblk1.free (k * 2)
    have g1 := hblk1.free (k * 2 + 1)
    clear hok hf hpw hbd hL hR hq he hLk
    simp only at c0 c1
    by_cases d1 : x = j
    · subst d1
      by_cases d2 : y = x + 1
      · subst d2
        go_wp2_with fail
        have hlen2 : (flat rs).length = N * 2 := by rw [flat_length, HN.out]
        refine (delete58 B g N cap k (flat rs) rest _ hB hlt hnc (by unfold maxLen; omega) hlen2 HL2.out (hblk1.alloc _) (flat_one _)).mono ?_
        rintro e w2 ⟨rfl, hown, hf2⟩
        have HEE : Hid ((flat rs).take (k * 2) ++ (flat rs).drop ((k + 1) * 2) = flat (L ++ R0)) := by
          show _ = _
          rw [flat_take, flat_drop, ← flat_append, HE.out]
          have := HLk.out
          subst this
          congr 1
          rw [List.take_left, List.drop_append, List.drop_of_length_le (by omega), show L.length + 1 - L.length = 1 by omega]; rfl
        rw [HEE.out] at hown
        have HLEN : Hid ((L ++ R0).length = N - 1) := by
          show _ = _
          have e1 := HN.out; rw [HE.out] at e1; simp at e1; simp; omega
        have hs2 := (hrs1.hdr.alloc (.cells #[.int .i64 x, .int .i64 (x + 1)] 68)).fr hf2 hne
        have d0 := hs2.cell (H.at0 _ _)
        have d1 := hs2.cell (H.at1 _ _)
        have d2 := hs2.free o
        have d3 := hs2.free (o + 1)
        have HFIN := hid (fun n' => rs_fin (n' := n') H hT hs2 (by rw [HLEN.out]; exact hown))
        have HFR : Hid (Fr (fun k => k = s ∨ (Value.slice (some ⟨g, 0, none⟩) N cap).ownBlock = some k) w w2) := Fr.trans (Fr.alloc (Fr.of_below hb) _) (one_fr rfl hf2)
        clear hs2 hown hf2 hblk hblk1 hrs hrs1 hlen2
        go_wp2
        go_ret
        refine ⟨true, _, _, _, rfl, HFIN.out (n - 1), Fr.setCell (Fr.setCell HFR.out _ (fun _ => .inl rfl)) _ (fun _ => .inl rfl), .inl rfl, .inr ⟨rfl, rfl, L, (x, x + 1), R0, HE.out, by simp, by simp; omega, ?_⟩⟩
        simp [remMid]
      · have d2' : (y == x + 1) = false := by simpa using d2
        go_wp2
        go_ret
        refine ⟨true, _, rs.set k (x + 1, y), _, rfl, RS.alloc (rs_fin2 (rs := rs) H hT hrs1.hdr hrs1.row HN.out (by rw [List.length_set]; exact HN.out) (flat_set_lo rs k (x, y) (x + 1) HQ.out)) _, Fr.alloc (Fr.setCell (Fr.setCell (Fr.of_below hb) _ (fun _ => .inr rfl)) _ (fun _ => .inl rfl)) _, .inl rfl, .inr ⟨rfl, rfl, L, (x, y), R0, HE.out, by simp, hq2, ?_⟩⟩
        rw [HE.out, set_mid HLk.out, remMid, if_neg (by simp), if_pos (by simp; omega)]
        simp
    · have d1' : (x == j) = false := by simpa using d1
      by_cases d2 : y = j + 1
      · subst d2
        go_wp2
        go_ret
        refine ⟨true, _, rs.set k (x, j), _, rfl, RS.alloc (rs_fin2 (rs := rs) H hT hrs1.hdr hrs1.row HN.out (by rw [List.length_set]; exact HN.out) (flat_set_hi rs k (x, j + 1) j HQ.out)) _, Fr.alloc (Fr.setCell (Fr.setCell (Fr.of_below hb) _ (fun _ => .inr rfl)) _ (fun _ => .inl rfl)) _, .inl rfl, .inr ⟨rfl, rfl, L, (x, j + 1), R0, HE.out, hq1, hq2, ?_⟩⟩
        rw [HE.out, set_mid HLk.out, remMid, if_pos (by simp; omega), if_neg (by simp)]
        simp
      · have d2' : (y == j + 1) = false := by simpa using d2
        have hrs2 : (flat rs).set (k * 2 + 1) (.int .i64 j) = flat (rs.set k (x, j)) := flat_set_hi rs k (x, y) j HQ.out
        have hlen2 : (flat rs).length = N * 2 := by rw [flat_length, HN.out]
        have hkf : k * 2 + 1 < (flat rs).length := by omega
        have hsX : Blk ((w1.setCell ⟨g, k * 2 + 1, none⟩ (.int .i64 j)).alloc (.cells #[.int .i64 x, .int .i64 y] 68)) s (mk (.slice (some ⟨g, 0, none⟩) N cap) (.int .i64 n)) T := (hrs1.hdr.other _ hne).alloc _
        have hgX : Blk ((w1.setCell ⟨g, k * 2 + 1, none⟩ (.int .i64 j)).alloc (.cells #[.int .i64 x, .int .i64 y] 68)) g (flat (rs.set k (x, j)) ++ rest) 68 := by
          have := (hblk1.set (k * 2 + 1) (.int .i64 j)).alloc (.cells #[.int .i64 x, .int .i64 y] 68)
          rwa [set_front hkf, hrs2] at this
        have hlX : Blk ((w1.setCell ⟨g, k * 2 + 1, none⟩ (.int .i64 j)).alloc (.cells #[.int .i64 x, .int .i64 y] 68)) w1.heap.size [.int .i64 x, .int .i64 y] 68 := by
          have := Blk.new (w1.setCell ⟨g, k * 2 + 1, none⟩ (.int .i64 j)) [.int .i64 x, .int .i64 y] 68
          simpa using this
        have hfX : Fr (fun k => k = s ∨ (Value.slice (some ⟨g, 0, none⟩) N cap).ownBlock = some k) w ((w1.setCell ⟨g, k * 2 + 1, none⟩ (.int .i64 j)).alloc (.cells #[.int .i64 x, .int .i64 y] 68)) := Fr.alloc (Fr.setCell (Fr.of_below hb) _ (fun _ => .inr rfl)) _
        have hbX : B ≤ ((w1.setCell ⟨g, k * 2 + 1, none⟩ (.int .i64 j)).alloc (.cells #[.int .i64 x, .int .i64 y] 68)).heap.size := by simp; omega
        have hoX : ((w1.setCell ⟨g, k * 2 + 1, none⟩ (.int .i64 j)).alloc (.cells #[.int .i64 x, .int .i64 y] 68)).ownsRow B 68 2 (.slice (some ⟨g, 0, none⟩) N cap) N (flat (rs.set k (x, j))) := by
          have hr := hrs1.row
          rw [HN.out] at hr
          have := ((hr.stored (k * 2 + 1) (.int .i64 j)).1).alloc (.cells #[.int .i64 x, .int .i64 y] 68)
          rwa [hrs2] at this
        have HOX := hid hoX
        have HGX := hid hgX
        have HSX := hid hsX
        have HLX := hid hlX
        have HFX := hid hfX
        have HNEX := hid (row_ne hT hsX hoX)
        clear hoX hgX hsX hlX hfX hrs2 hlen2 hkf
        go_wp2_with fail
        generalize (w1.setCell ⟨g, k * 2 + 1, none⟩ (.int .i64 j)).alloc (.cells #[.int .i64 x, .int .i64 y] 68) = W2 at HOX HGX HSX HLX HFX hbX ⊢
        have p0 := HSX.out.cell (H.at0 _ _)
        have p1 := HSX.out.cell (H.at1 _ _)
        have p2 := HSX.out.free o
        have p3 := HSX.out.free (o + 1)
        have p4 := HLX.out.cell (j := 1) rfl
        have r0 := World.new_ne W2 _ p0
        have r4 := World.new_ne W2 _ p4
        have HBX := hid hbX
        have hsz1 : s < W2.heap.size := HSX.out.lt
        have hsz2 : w1.heap.size < W2.heap.size := HLX.out.lt
        have hw1 : IntKind.i64.wrap (j + 1) = j + 1 := by rw [IntKind.wrap_i64]; omega
        have hw2 : IntKind.i64.wrap ((k : Int) + 1) = (k : Int) + 1 := by rw [IntKind.wrap_i64]; omega
        clear hbX e0 e1 f0 f1 c0 c1 g0 g1 hrs hrs1 hblk hblk1
        go_region_with
          (first | (go_at_call 59; refine (insert59 B W2.heap.size (k + 1) N _ (flat (rs.set k (x, j))) (j + 1) y _ (by have := HBX.out; simp; omega) (by omega) (by omega) (by exact HOX.out.alloc _) (flat_one _) (by exact Blk.new W2 [.int .i64 (j + 1), .int .i64 y] 68) (by simp [Value.ownBlock]; have := HGX.out.lt; omega)).mono ?_; rintro e w3 ⟨v', rfl, hown3, hf3, hat3⟩; go_must (obtain ⟨g', cap', hv'⟩ := slice_form hown3 (by omega); subst hv'; have Q0 := hid (Blk.fr (M := fun k => (Value.slice (some ⟨g, 0, none⟩) N cap).ownBlock = some k) (HSX.out.alloc _).drew hf3 HNEX.out); have Q1 := hid (Blk.fr (M := fun k => (Value.slice (some ⟨g, 0, none⟩) N cap).ownBlock = some k) (HLX.out.alloc _).drew hf3 (by simp [Value.ownBlock]; omega)); have q0 := Q0.out.cell (H.at0 _ _); have q1 := Q0.out.cell (H.at1 _ _); have q2 := Q0.out.free o; have q3 := Q0.out.free (o + 1); have q4 := Q1.out.cell (j := 1) rfl; have HO3 := hid hown3; have HF3 := hid hf3; have HA3 := hid hat3; clear hown3 hf3 hat3)))
        all_goals
          have HR2 : Hid (rs.set k (x, j) = (L ++ [(x, j)]) ++ R0) := by show _ = _; rw [HE.out, set_mid HLk.out]; simp
          have HEE : Hid ((flat (rs.set k (x, j))).take ((k + 1) * 2) ++ [.int .i64 (j + 1), .int .i64 y] ++ (flat (rs.set k (x, j))).drop ((k + 1) * 2) = flat ((L ++ [(x, j)]) ++ (j + 1, y) :: R0)) := flat_ins HR2.out (by rw [List.length_append, HLk.out]; rfl)
          have HO4 := HO3.out
          rw [HEE.out] at HO4
          have HLEN : Hid (((L ++ [(x, j)]) ++ (j + 1, y) :: R0).length = N + 1) := by
            show _ = _
            have e1 := HN.out; rw [HE.out] at e1; simp at e1; simp; omega
          have HFIN := hid (fun n' => rs_fin (n' := n') H hT Q0.out (by rw [HLEN.out]; exact HO4))
          have HFR : Hid (Fr (fun k => k = s ∨ (Value.slice (some ⟨g, 0, none⟩) N cap).ownBlock = some k) w w3) := Fr.trans (HFX.out.alloc (.cells #[.int .i64 (j + 1), .int .i64 y] 68)).drew (own_fr HF3.out)
          have HAT : Hid ((Value.slice (some { block := g', off := 0 }) (N + 1) cap').ownBlock = (Value.slice (some { block := g, off := 0 }) N cap).ownBlock ∨ ∃ g, (Value.slice (some { block := g', off := 0 }) (N + 1) cap').ownBlock = some g ∧ w.heap.size ≤ g) := by
            rcases HA3.out with h | ⟨g2, h, hle⟩
            · exact .inl h
            · refine .inr ⟨g2, h, ?_⟩
              have := HFX.out.size
              simp at hle
              omega
          clear HO4 p0 p1 p2 p3 p4 r0 r4 q4 hsz1 hsz2
          go_wp2
          go_ret
          refine ⟨true, _, _, _, rfl, HFIN.out (n - 1), Fr.setCell (Fr.setCell HFR.out _ (fun _ => .inl rfl)) _ (fun _ => .inl rfl), HAT.out, .inr ⟨rfl, rfl, L, (x, y), R0, HE.out, hq1, hq2, ?_⟩⟩
          rw [remMid, if_pos (by simp; omega), if_pos (by simp; omega)]
          simp

/-- remove, whatever the run set. -/
theorem rem56 (H : Hdr mk o) (hT : T ≠ 68) (B s : Nat) (v : Value) (rs : List (Int × Int)) (n j : Int) (w : World) (hBs : B ≤ s) (hrs : RS mk T w B s v rs n) (hpw : Pw rs) (hbd : Bd rs) (hlen : rs.length ≤ 100000000) (hn0 : 0 ≤ n) (hn1 : n ≤ 4611686018427387903) :
    Calls Try.prog 56 #[.pointer (some ⟨s, o, none⟩), .int .i64 j] w (RemPost mk T B s v rs n j w) := by
  rcases ownsRow_form hrs.row with ⟨rfl, h0, _⟩ | ⟨g, cap, rest, rfl, hg, hnc, hcm, hl, hl2, hblk⟩
  · obtain rfl : rs = [] := List.eq_nil_of_length_eq_zero h0
    exact rem_nil H hT B s n j w hrs
  · exact rem_slice H hT B s g rs.length cap rest rs n j w hg hBs hrs rfl hpw hbd hlen hn0 hn1 hnc hcm hl2 hblk

/-- has, whatever the run set. -/
def HasPost (rs : List (Int × Int)) (j : Int) (w : World) (e : Ending) (w' : World) : Prop := ∃ r : Bool, e = .returned (.bool r) ∧ (r = true ↔ ∃ q ∈ rs, q.1 ≤ j ∧ j < q.2) ∧ Below w.heap.size w w'

theorem find_has {rs : List (Int × Int)} {j : Int} {k : Nat} {ok : Bool} (hp : Pw rs) (h : FindAt rs j k) (hok : ok = true ↔ ∃ r, rs[k]? = some r ∧ r.1 ≤ j) : ok = true ↔ ∃ q ∈ rs, q.1 ≤ j ∧ j < q.2 := by
  constructor
  · intro e
    obtain ⟨r, hr, hr1⟩ := hok.1 e
    refine ⟨r, List.mem_of_getElem? hr, hr1, ?_⟩
    rcases Int.lt_or_le j r.2 with h' | h'
    · exact h'
    · have := (h.2 k r hr).2 h'; omega
  · rintro ⟨q, hq, h1, h2⟩
    cases ok with
    | true => rfl
    | false => exact absurd ⟨h1, h2⟩ (find_none hp h (fun he => by have := hok.2 he; cases this) q hq)

set_option maxHeartbeats 400000 in
theorem has55 (H : Hdr mk o) (B s : Nat) (v : Value) (rs : List (Int × Int)) (n j : Int) (w : World) (hrs : RS mk T w B s v rs n) (hpw : Pw rs) (hlen : rs.length ≤ 100000000) :
    Calls Try.prog 55 #[.pointer (some ⟨s, o, none⟩), .int .i64 j] w (HasPost rs j w) := by
  go_enter Try.func55, Try.ntmps55
  go_wp2_with fail
  refine (find57 B s o _ rs j w (by omega) hpw.asc hrs.row (hrs.hdr.cell (H.at0 _ _))).mono ?_
  rintro e w1 ⟨k, ok, rfl, hf, hok, hb⟩
  have HH := hid (find_has hpw hf hok)
  clear hf hok
  go_wp2
  go_ret
  exact ⟨ok, rfl, HH.out, hb⟩

set_option maxHeartbeats 400000 in
theorem has48 (H : Hdr mk o) (B s : Nat) (v : Value) (rs : List (Int × Int)) (n j : Int) (w : World) (hrs : RS mk T w B s v rs n) (hpw : Pw rs) (hlen : rs.length ≤ 100000000) :
    Calls Try.prog 48 #[.pointer (some ⟨s, o, none⟩), .int .i64 j] w (HasPost rs j w) := by
  go_enter Try.func48, Try.ntmps48
  go_wp2_with fail
  refine (has55 H B s v rs n j w hrs hpw hlen).mono ?_
  rintro e w1 ⟨r, rfl, hr, hb⟩
  have HH := hid hr
  clear hr
  go_wp2
  go_ret
  exact ⟨r, rfl, HH.out, hb⟩

set_option maxHeartbeats 400000 in
theorem rem49 (H : Hdr mk o) (hT : T ≠ 68) (B s : Nat) (v : Value) (rs : List (Int × Int)) (n j : Int) (w : World) (hBs : B ≤ s) (hrs : RS mk T w B s v rs n) (hpw : Pw rs) (hbd : Bd rs) (hlen : rs.length ≤ 100000000) (hn0 : 0 ≤ n) (hn1 : n ≤ 4611686018427387903) :
    Calls Try.prog 49 #[.pointer (some ⟨s, o, none⟩), .int .i64 j] w (RemPost mk T B s v rs n j w) := by
  go_enter Try.func49, Try.ntmps49
  go_wp2_with fail
  refine (rem56 H hT B s v rs n j w hBs hrs hpw hbd hlen hn0 hn1).mono ?_
  rintro e w' ⟨r, v', rs', n', rfl, h⟩
  have HH := hid h
  clear h
  go_wp2
  go_ret
  exact ⟨r, v', rs', n', rfl, HH.out⟩
end

end Go.Proofs.Qxb6600404a
