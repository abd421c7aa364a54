/-
  Seat b6600404a: (*runSet).addRange.
-/
import Derived.Test.Qxb6600404aInsert3
namespace Go.Proofs.Qxb6600404a
open Go.RowKit
set_option linter.unusedVariables false
set_option linter.unusedSimpArgs false

/-- A header of two cells (the slice of runs; their count) that lies from place 'o' on in a block. -/
structure Hdr (mk : Value → Value → List Value) (o : Nat) : Prop where
  at0 : ∀ v n, (mk v n)[o]? = some v
  at1 : ∀ v n, (mk v n)[o + 1]? = some n
  set0 : ∀ v n v', (mk v n).set o v' = mk v' n
  set1 : ∀ v n n', (mk v n).set (o + 1) n' = mk v n'

/-- The run set at block 's', place 'o': the runs 'rs' and the count 'n'. -/
structure RS (mk : Value → Value → List Value) (T : TypeId) (w : World) (B s : Nat) (v : Value) (rs : List (Int × Int)) (n : Int) : Prop where
  hdr : Blk w s (mk v (.int .i64 n)) T
  row : w.ownsRow B 68 2 v rs.length (flat rs)

theorem flat_one : ∀ (rs : List (Int × Int)), ∀ u ∈ flat rs, u.oneCell' = true
  | [], u, h => by simp [flat] at h
  | r :: rs, u, h => by
    simp [flat] at h
    rcases h with rfl | rfl | h
    · rfl
    · rfl
    · exact flat_one rs u h

theorem flat_take : ∀ (rs : List (Int × Int)) (i : Nat), (flat rs).take (i * 2) = flat (rs.take i)
  | [], i => by simp [flat]
  | r :: rs, 0 => by simp [flat]
  | r :: rs, i + 1 => by rw [show (i + 1) * 2 = i * 2 + 2 by omega]; simp [flat, flat_take rs i]
theorem flat_drop : ∀ (rs : List (Int × Int)) (i : Nat), (flat rs).drop (i * 2) = flat (rs.drop i)
  | [], i => by simp [flat]
  | r :: rs, 0 => by simp [flat]
  | r :: rs, i + 1 => by rw [show (i + 1) * 2 = i * 2 + 2 by omega]; simp [flat, flat_drop rs i]
theorem flat_set_lo : ∀ (rs : List (Int × Int)) (i : Nat) (r : Int × Int) (x : Int), rs[i]? = some r → (flat rs).set (i * 2) (.int .i64 x) = flat (rs.set i (x, r.2))
  | [], i, r, x, h => by simp at h
  | s :: rs, 0, r, x, h => by simp at h; subst h; simp [flat]
  | s :: rs, i + 1, r, x, h => by rw [show (i + 1) * 2 = i * 2 + 2 by omega]; simp [flat, flat_set_lo rs i r x (by simpa using h)]
theorem flat_set_hi : ∀ (rs : List (Int × Int)) (i : Nat) (r : Int × Int) (x : Int), rs[i]? = some r → (flat rs).set (i * 2 + 1) (.int .i64 x) = flat (rs.set i (r.1, x))
  | [], i, r, x, h => by simp at h
  | s :: rs, 0, r, x, h => by simp at h; subst h; simp [flat]
  | s :: rs, i + 1, r, x, h => by rw [show (i + 1) * 2 + 1 = i * 2 + 1 + 2 by omega]; simp [flat, flat_set_hi rs i r x (by simpa using h)]

theorem RS.keep {mk : Value → Value → List Value} {T : TypeId} {w w' : World} {B s : Nat} {v : Value} {rs : List (Int × Int)} {n : Int} (h : RS mk T w B s v rs n) (hb : Below w.heap.size w w') : RS mk T w' B s v rs n := ⟨h.hdr.keep hb, ownsRow_keep h.row hb⟩

theorem row_ne {w : World} {B s : Nat} {v : Value} {n : Nat} {xs cs : List Value} {T : TypeId} (hT : T ≠ 68) (hs : Blk w s cs T) (h : w.ownsRow B 68 2 v n xs) : v.ownBlock ≠ some s := by
  rcases ownsRow_form h with ⟨rfl, _, _⟩ | ⟨g, cap, rest, rfl, _, _, _, _, _, hb⟩
  · simp [Value.ownBlock]
  · simp only [Value.ownBlock, ne_eq, Option.some.injEq]
    intro e
    subst e
    have h1 : w.heap[g]? = some (.cells cs.toArray T (0, 0)) := hs
    have h2 : w.heap[g]? = some (.cells (xs ++ rest).toArray 68 (0, 0)) := hb
    rw [h1] at h2
    simp at h2
    exact hT h2.2

theorem rs_fin {mk : Value → Value → List Value} {T : TypeId} {o : Nat} (H : Hdr mk o) (hT : T ≠ 68) {w : World} {B s : Nat} {v v' n : Value} {n' : Int} {rs' : List (Int × Int)} (hs : Blk w s (mk v n) T) (hr : w.ownsRow B 68 2 v' rs'.length (flat rs')) :
    RS mk T ((w.setCell ⟨s, o, none⟩ v').setCell ⟨s, o + 1, none⟩ (.int .i64 n')) B s v' rs' n' := by
  have hne := row_ne hT hs hr
  refine ⟨?_, ownsRow_setCell_other (ownsRow_setCell_other hr (by exact hne) _) (by exact hne) _⟩
  have := (hs.set o v').set (o + 1) (.int .i64 n')
  rwa [H.set0, H.set1] at this

theorem rs_fin2 {mk : Value → Value → List Value} {T : TypeId} {o : Nat} (H : Hdr mk o) (hT : T ≠ 68) {w : World} {B s g N cap j : Nat} {n : Value} {n' : Int} {u : Value} {rs rs' : List (Int × Int)} (hs : Blk w s (mk (.slice (some ⟨g, 0, none⟩) N cap) n) T)
    (hr : w.ownsRow B 68 2 (.slice (some ⟨g, 0, none⟩) N cap) rs.length (flat rs)) (hN : rs.length = N) (hl : rs'.length = N) (he : (flat rs).set j u = flat rs') :
    RS mk T ((w.setCell ⟨g, j, none⟩ u).setCell ⟨s, o + 1, none⟩ (.int .i64 n')) B s (.slice (some ⟨g, 0, none⟩) N cap) rs' n' := by
  have hne := row_ne hT hs hr
  have hgs : s ≠ g := fun e => hne (by simp [Value.ownBlock, e])
  refine ⟨?_, ownsRow_setCell_other ?_ (by exact hne) _⟩
  · have := (hs.other u (a := ⟨g, j, none⟩) hgs).set (o + 1) (.int .i64 n')
    rwa [H.set1] at this
  · rw [hN] at hr
    have := (hr.stored j u).1
    rw [he] at this
    rw [hl]
    exact this

/-- What addRange leaves, in the old runs' own parts: L end at or before lo, R behind it. -/
def AddTo (L R : List (Int × Int)) (lo hi : Int) (rs' : List (Int × Int)) : Prop :=
  (∃ L0 p q R0, L = L0 ++ [p] ∧ p.2 = lo ∧ R = q :: R0 ∧ q.1 = hi ∧ rs' = L0 ++ (p.1, q.2) :: R0) ∨
  (∃ L0 p, L = L0 ++ [p] ∧ p.2 = lo ∧ (∀ q R0, R = q :: R0 → q.1 ≠ hi) ∧ rs' = L0 ++ (p.1, hi) :: R) ∨
  (∃ q R0, (∀ L0 p, L = L0 ++ [p] → p.2 ≠ lo) ∧ R = q :: R0 ∧ q.1 = hi ∧ rs' = L ++ (lo, q.2) :: R0) ∨
  ((∀ L0 p, L = L0 ++ [p] → p.2 ≠ lo) ∧ (∀ q R0, R = q :: R0 → q.1 ≠ hi) ∧ rs' = L ++ (lo, hi) :: R)

theorem AddTo3 {L R0 : List (Int × Int)} {q : Int × Int} {lo hi : Int} {rs' : List (Int × Int)} (h1 : ∀ L0 p, L = L0 ++ [p] → p.2 ≠ lo) (h2 : q.1 = hi) (h3 : rs' = L ++ (lo, q.2) :: R0) : AddTo L (q :: R0) lo hi rs' := .inr (.inr (.inl ⟨q, R0, h1, rfl, h2, h3⟩))
theorem AddTo4 {L R : List (Int × Int)} {lo hi : Int} (h1 : ∀ L0 p, L = L0 ++ [p] → p.2 ≠ lo) (h2 : ∀ q R0, R = q :: R0 → q.1 ≠ hi) : AddTo L R lo hi (L ++ (lo, hi) :: R) := .inr (.inr (.inr ⟨h1, h2, rfl⟩))
theorem find_split {rs : List (Int × Int)} {j : Int} {k : Nat} (h : FindAt rs j k) : ∃ L R, rs = L ++ R ∧ L.length = k ∧ (∀ p ∈ L, p.2 ≤ j) ∧ (∀ q R0, R = q :: R0 → j < q.2) := by
  refine ⟨rs.take k, rs.drop k, (List.take_append_drop k rs).symm, by rw [List.length_take]; have := h.1; omega, ?_, ?_⟩
  · intro p hp
    obtain ⟨i, hi, rfl⟩ := List.mem_iff_getElem.1 hp
    rw [List.length_take] at hi
    refine (h.2 i _ ?_).1 (by omega)
    rw [List.getElem_take]
    exact List.getElem?_eq_getElem (by omega)
  · intro q R0 hq
    have hk : rs[k]? = some q := by
      have : (rs.drop k)[0]? = some q := by rw [hq]; rfl
      rwa [List.getElem?_drop] at this
    rcases Int.lt_or_le j q.2 with h' | h'
    · exact h'
    · have := (h.2 k q hk).2 h'; omega

/-- What addRange comes to. -/
def AddPost (mk : Value → Value → List Value) (T : TypeId) (B s : Nat) (v : Value) (rs : List (Int × Int)) (n lo hi : Int) (w : World) (e : Ending) (w' : World) : Prop :=
  ∃ (r : Bool) (v' : Value) (rs' : List (Int × Int)) (n' : Int), e = .returned (.bool r) ∧ RS mk T w' B s v' rs' n' ∧ Fr (fun k => k = s ∨ v.ownBlock = some k) w w' ∧ (v'.ownBlock = v.ownBlock ∨ ∃ g, v'.ownBlock = some g ∧ w.heap.size ≤ g) ∧
    ((hi ≤ lo ∧ r = true ∧ rs' = rs ∧ n' = n) ∨
     (lo < hi ∧ r = false ∧ rs' = rs ∧ n' = n ∧ ∃ (i : Nat) (q : Int × Int), rs[i]? = some q ∧ lo < q.2 ∧ q.1 < hi) ∨
     (lo < hi ∧ r = true ∧ n' = n + (hi - lo) ∧ ∃ L R, rs = L ++ R ∧ (∀ p ∈ L, p.2 ≤ lo) ∧ (∀ q R0, R = q :: R0 → lo < q.2 ∧ hi ≤ q.1) ∧ AddTo L R lo hi rs'))

section
variable {mk : Value → Value → List Value} {T : TypeId} {o : Nat}

set_option maxHeartbeats 1000000 in
theorem add_le (H : Hdr mk o) (hT : T ≠ 68) (B s : Nat) (v : Value) (rs : List (Int × Int)) (n lo hi : Int) (w : World) (hrs : RS mk T w B s v rs n) (h : hi ≤ lo) :
    Calls Try.prog 50 #[.pointer (some ⟨s, o, none⟩), .int .i64 lo, .int .i64 hi] w (AddPost mk T B s v rs n lo hi w) := by
  go_enter Try.func50, Try.ntmps50
  go_wp2
  go_ret
  exact ⟨true, v, rs, n, rfl, hrs, Fr.refl _ _, .inl rfl, .inl ⟨h, rfl, rfl, rfl⟩⟩

theorem last_ne {L L0 : List (Int × Int)} {p : Int × Int} {lo : Int} (h : L = L0 ++ [p]) (hp : p.2 ≠ lo) : ∀ L0' p', L = L0' ++ [p'] → p'.2 ≠ lo := by
  intro L0' p' e
  rw [h] at e
  have := List.append_inj_right' e rfl
  simp at this
  rw [← this]; exact hp
theorem head_ne {R R0 : List (Int × Int)} {q : Int × Int} {hi : Int} (h : R = q :: R0) (hq : q.1 ≠ hi) : ∀ q' R0', R = q' :: R0' → q'.1 ≠ hi := by
  intro q' R0' e
  rw [h] at e
  simp at e
  rw [← e.1]; exact hq

theorem one_fr {w : World} {s : Nat} {v : Value} {g : Nat} (h : v.ownBlock = some g) {w' : World} (hf : Fr (fun k => k = g) w w') : Fr (fun k => k = s ∨ v.ownBlock = some k) w w' :=
  ⟨hf.os, hf.tape, hf.output, hf.size, fun k hk hm => hf.block k hk (fun e => hm (.inr (by rw [h, e])))⟩
theorem own_fr {w : World} {s : Nat} {v : Value} {w' : World} (hf : Fr (fun k => v.ownBlock = some k) w w') : Fr (fun k => k = s ∨ v.ownBlock = some k) w w' :=
  ⟨hf.os, hf.tape, hf.output, hf.size, fun k hk hm => hf.block k hk (fun e => hm (.inr e))⟩

theorem nil_or_last (L : List (Int × Int)) : L = [] ∨ ∃ L0 p, L = L0 ++ [p] := by
  rcases List.eq_nil_or_concat L with h | ⟨L0, p, h⟩
  · exact .inl h
  · exact .inr ⟨L0, p, by rw [h, List.concat_eq_append]⟩
theorem set_mid {L R0 : List (Int × Int)} {q x : Int × Int} {k : Nat} (hk : L.length = k) : (L ++ q :: R0).set k x = L ++ x :: R0 := by
  subst hk
  rw [List.set_append_right _ _ (Nat.le_refl _)]; simp
theorem set_last {L0 R : List (Int × Int)} {p x : Int × Int} {m : Nat} (hk : (L0 ++ [p]).length = m + 1) : (L0 ++ [p] ++ R).set m x = L0 ++ x :: R := by
  rw [List.append_assoc, List.singleton_append]
  exact set_mid (by simpa using hk)
theorem erase_mid {L0 R0 : List (Int × Int)} {p q x : Int × Int} {m : Nat} (hk : (L0 ++ [p]).length = m + 1) : (flat ((L0 ++ [p] ++ q :: R0).set m x)).take ((m + 1) * 2) ++ (flat ((L0 ++ [p] ++ q :: R0).set m x)).drop ((m + 1 + 1) * 2) = flat (L0 ++ x :: R0) := by
  rw [set_last hk, flat_take, flat_drop, ← flat_append]
  have hm : L0.length = m := by simpa using hk
  subst hm
  congr 1
  have e1 : (L0 ++ x :: q :: R0).take (L0.length + 1) = L0 ++ [x] := by
    rw [List.take_append, List.take_of_length_le (by omega)]; simp
  have e2 : (L0 ++ x :: q :: R0).drop (L0.length + 1 + 1) = R0 := by
    rw [List.drop_append, List.drop_of_length_le (by omega), show L0.length + 1 + 1 - L0.length = 2 by omega]; rfl
  rw [e1, e2]; simp
theorem flat_ins {rs L R : List (Int × Int)} {k : Nat} {lo hi : Int} (h : rs = L ++ R) (hk : L.length = k) : (flat rs).take (k * 2) ++ [.int .i64 lo, .int .i64 hi] ++ (flat rs).drop (k * 2) = flat (L ++ (lo, hi) :: R) := by
  subst h; subst hk
  rw [flat_take, flat_drop, flat_append]; simp [flat]
theorem set_front {α : Type} {xs rest : List α} {j : Nat} {u : α} (h : j < xs.length) : (xs ++ rest).set j u = xs.set j u ++ rest := List.set_append_left _ _ h

/-- Behind the insertion: the header takes the new slice and the new count. -/
theorem ins_fin {mk : Value → Value → List Value} {T : TypeId} {o : Nat} (H : Hdr mk o) (hT : T ≠ 68) {w w1 w2 : World} {B s N : Nat} {v v' : Value} {n n' lo hi : Int} {rs L R : List (Int × Int)} (hb : Below w.heap.size w w1) (hs : Blk w1 s (mk v (.int .i64 n)) T)
    (hr : w2.ownsRow B 68 2 v' (N + 1) (flat (L ++ (lo, hi) :: R))) (hN : rs.length = N) (he : rs = L ++ R) (hf : Fr (fun k => v.ownBlock = some k) (w1.alloc (.cells #[.int .i64 lo, .int .i64 hi] 68)) w2) (hne : v.ownBlock ≠ some s)
    (hat : v'.ownBlock = v.ownBlock ∨ ∃ g, v'.ownBlock = some g ∧ (w1.alloc (.cells #[.int .i64 lo, .int .i64 hi] 68)).heap.size ≤ g) (hsw : s < w.heap.size) :
    RS mk T ((w2.setCell ⟨s, o, none⟩ v').setCell ⟨s, o + 1, none⟩ (.int .i64 n')) B s v' (L ++ (lo, hi) :: R) n' ∧ Fr (fun k => k = s ∨ v.ownBlock = some k) w ((w2.setCell ⟨s, o, none⟩ v').setCell ⟨s, o + 1, none⟩ (.int .i64 n')) ∧ (v'.ownBlock = v.ownBlock ∨ ∃ g, v'.ownBlock = some g ∧ w.heap.size ≤ g) := by
  have hl : (L ++ (lo, hi) :: R).length = N + 1 := by rw [← hN, he]; simp; omega
  refine ⟨rs_fin H hT ((hs.alloc _).fr hf hne) (by rw [hl]; exact hr), ?_, ?_⟩
  · refine Fr.setCell (Fr.setCell ?_ _ (fun _ => .inl rfl)) _ (fun _ => .inl rfl)
    exact Fr.trans (Fr.trans (Fr.of_below hb) ((Fr.refl _ w1).alloc _)) (own_fr hf)
  · rcases hat with hat | ⟨g, hg, hle⟩
    · exact .inl hat
    · refine .inr ⟨g, hg, ?_⟩
      have := hb.size
      simp at hle
      omega

set_option maxHeartbeats 4000000 in
set_option maxRecDepth 100000 in
theorem add_slice (H : Hdr mk o) (hT : T ≠ 68) (B s g N cap : Nat) (rest : List Value) (rs : List (Int × Int)) (n lo hi : Int) (w : World) (hB : B ≤ g) (hBs : B ≤ s) (hrs : RS mk T w B s (.slice (some ⟨g, 0, none⟩) N cap) rs n) (hN : rs.length = N) (hasc : Asc rs) (hlen : N ≤ 100000000) (hn0 : 0 ≤ n) (hn1 : n ≤ 2305843009213693950)
    (h : lo < hi) (hlo : -1152921504606846975 ≤ lo) (hhi : hi ≤ 1152921504606846975) (hnc : N ≤ cap) (hcm : cap ≤ maxLen) (hl2 : (flat rs).length + rest.length = cap * 2) (hblk : Blk w g (flat rs ++ rest) 68) :
    Calls Try.prog 50 #[.pointer (some ⟨s, o, none⟩), .int .i64 lo, .int .i64 hi] w (AddPost mk T B s (.slice (some ⟨g, 0, none⟩) N cap) rs n lo hi w) := by
  unfold maxLen at hcm
  have HN := hid hN
  have HL2 := hid hl2
  clear hl2
  go_enter Try.func50, Try.ntmps50
  go_wp2_with fail
  refine (find57 B s o _ rs lo w (by omega) hasc hrs.row (hrs.hdr.cell (H.at0 _ _))).mono ?_
  clear hN
  rintro e w1 ⟨k, ok, rfl, hf, hok, hb⟩
  have hrs1 := hrs.keep hb
  have e0 := hrs1.hdr.cell (H.at0 _ _)
  have e1 := hrs1.hdr.cell (H.at1 _ _)
  have f0 := hrs1.hdr.free o
  have f1 := hrs1.hdr.free (o + 1)
  have hblk1 := hblk.keep hb
  have hgf := hblk1.free
  have hne : s ≠ g := fun e => row_ne hT hrs1.hdr hrs1.row (by simp [Value.ownBlock, e])
  have hBw : B ≤ w1.heap.size := Nat.le_trans (Nat.le_trans hBs (Nat.le_of_lt hrs.hdr.lt)) hb.size
  obtain ⟨L, R, HRS, HLk, hL, hR⟩ : ∃ L R, Hid (rs = L ++ R) ∧ Hid (L.length = k) ∧ (∀ p ∈ L, p.2 ≤ lo) ∧ (∀ q R0, R = q :: R0 → lo < q.2) := find_split hf
  have HL := hid hL
  have HR := hid hR
  clear hL hR
  rcases R with _ | ⟨q, R0⟩
  · have hkN : k = N := by have e1 := HN.out; have e2 := HRS.out; have e3 := HLk.out; rw [e2] at e1; simp at e1; omega
    have HKN := hid hkN
    have hge : ¬ k < N := by omega
    obtain rfl : ok = false := by
      cases ok with
      | false => rfl
      | true => obtain ⟨r, hr, hr2⟩ := hok.1 rfl; have := (List.getElem?_eq_some_iff.1 hr).1; rw [HN.out] at this; omega
    clear hok hf hkN
    have hge' : N ≤ k := by omega
    have hle' : k ≤ N := by have := HKN.out; omega
    rcases nil_or_last L with hL0 | ⟨L0, p, hL0⟩
    · obtain rfl : k = 0 := by have := HLk.out; rw [hL0] at this; simpa using this.symm
      have HL0 := hid hL0
      clear hL0
      go_wp2_with fail
      refine (insert59 B w1.heap.size 0 N _ (flat rs) lo hi _ (by simp; omega) (by omega) (by omega) (by have := hrs1.row.alloc (.cells #[.int .i64 lo, .int .i64 hi] 68); rwa [HN.out] at this) (flat_one rs) (Blk.new w1 [.int .i64 lo, .int .i64 hi] 68) (by simp [Value.ownBlock]; have := hblk1.lt; omega)).mono ?_
      rintro e w2 ⟨v', rfl, hown, hf2, hat⟩
      rw [flat_ins HRS.out HLk.out] at hown
      have hs2 := (hrs1.hdr.alloc (.cells #[.int .i64 lo, .int .i64 hi] 68)).fr hf2 (row_ne hT hrs1.hdr hrs1.row)
      have d0 := hs2.cell (H.at0 _ _)
      have d1 := hs2.cell (H.at1 _ _)
      have d2 := hs2.free o
      have d3 := hs2.free (o + 1)
      obtain ⟨g', cap', hv'⟩ : ∃ g' cap', v' = .slice (some ⟨g', 0, none⟩) (N + 1) cap' := by
        rcases ownsRow_form hown with ⟨_, h0, _⟩ | ⟨g', cap', _, hv', _⟩
        · omega
        · exact ⟨g', cap', hv'⟩
      have HFIN := hid (fun n' => ins_fin (n' := n') H hT hb hrs1.hdr hown HN.out HRS.out hf2 (row_ne hT hrs1.hdr hrs1.row) hat hrs.hdr.lt)
      rw [hv'] at HFIN ⊢
      clear hs2 hown hf2 hat hv' hblk hblk1 hrs hrs1
      go_wp2
      go_ret
      obtain ⟨z1, z2, z3⟩ := HFIN.out (n + (hi - lo))
      exact ⟨true, _, _, _, rfl, z1, z2, z3, .inr (.inr ⟨h, rfl, rfl, L, _, HRS.out, HL.out, (by intro q R0 e; cases e), AddTo4 (by have hL0 := HL0.out; intro L0 p e; rw [hL0] at e; have := congrArg List.length e; simp at this) (by intro q R0 e; cases e)⟩)⟩
    · obtain ⟨m, rfl⟩ : ∃ m, k = m + 1 := ⟨L0.length, by have := HLk.out; rw [hL0] at this; simpa using this.symm⟩
      have hp : rs[m]? = some p := by rw [HRS.out, hL0]; have := HLk.out; rw [hL0] at this; simp at this; simp [← this]
      obtain ⟨b0, b1⟩ := run_cells hblk1 hp
      have HP := hid hp
      have HL0 := hid hL0
      have g0 := hgf (m * 2 + 1)
      clear hp hL0 hgf
      by_cases hbef : p.2 = lo
      · have hbe : (p.2 == lo) = true := by simpa using hbef
        have HF := hid hbef
        clear hbef
        go_wp2
        go_ret
        exact ⟨true, _, (rs.set m (p.1, hi)), _, rfl, rs_fin2 H hT hrs1.hdr hrs1.row HN.out (by rw [List.length_set]; exact HN.out) (flat_set_hi rs m p hi HP.out), Fr.setCell (Fr.setCell (Fr.of_below hb) _ (fun _ => .inr rfl)) _ (fun _ => .inl rfl), .inl rfl, .inr (.inr ⟨h, rfl, rfl, L, _, HRS.out, HL.out, (by intro q R0 e; cases e), .inr (.inl ⟨L0, p, HL0.out, HF.out, (by intro q R0 e; cases e), by rw [HRS.out, HL0.out]; exact set_last (by rw [← HL0.out]; exact HLk.out)⟩)⟩)⟩
      · have hbe : (p.2 == lo) = false := by simpa using hbef
        have HF := hid hbef
        clear hbef
        go_wp2_with fail
        refine (insert59 B w1.heap.size (m + 1) N _ (flat rs) lo hi _ (by simp; omega) (by omega) (by omega) (by have := hrs1.row.alloc (.cells #[.int .i64 lo, .int .i64 hi] 68); rwa [HN.out] at this) (flat_one rs) (Blk.new w1 [.int .i64 lo, .int .i64 hi] 68) (by simp [Value.ownBlock]; have := hblk1.lt; omega)).mono ?_
        rintro e w2 ⟨v', rfl, hown, hf2, hat⟩
        rw [flat_ins HRS.out HLk.out] at hown
        have hs2 := (hrs1.hdr.alloc (.cells #[.int .i64 lo, .int .i64 hi] 68)).fr hf2 (row_ne hT hrs1.hdr hrs1.row)
        have d0 := hs2.cell (H.at0 _ _)
        have d1 := hs2.cell (H.at1 _ _)
        have d2 := hs2.free o
        have d3 := hs2.free (o + 1)
        obtain ⟨g', cap', hv'⟩ : ∃ g' cap', v' = .slice (some ⟨g', 0, none⟩) (N + 1) cap' := by
          rcases ownsRow_form hown with ⟨_, h0, _⟩ | ⟨g', cap', _, hv', _⟩
          · omega
          · exact ⟨g', cap', hv'⟩
        have HFIN := hid (fun n' => ins_fin (n' := n') H hT hb hrs1.hdr hown HN.out HRS.out hf2 (row_ne hT hrs1.hdr hrs1.row) hat hrs.hdr.lt)
        rw [hv'] at HFIN ⊢
        clear hs2 hown hf2 hat hv' hblk hblk1 hrs hrs1
        go_wp2
        go_ret
        obtain ⟨z1, z2, z3⟩ := HFIN.out (n + (hi - lo))
        exact ⟨true, _, _, _, rfl, z1, z2, z3, .inr (.inr ⟨h, rfl, rfl, L, _, HRS.out, HL.out, (by intro q R0 e; cases e), AddTo4 (last_ne HL0.out HF.out) (by intro q R0 e; cases e)⟩)⟩
  · have hq : rs[k]? = some q := by rw [HRS.out, ← HLk.out]; simp
    obtain ⟨c0, c1⟩ := run_cells hblk1 hq
    have hq2 := HR.out q R0 rfl
    have HQ := hid hq
    have hlt : k < N := by have e1 := HN.out; have e2 := HRS.out; have e3 := HLk.out; rw [e2] at e1; simp at e1; omega
    by_cases hqh : q.1 < hi
    · by_cases hql : q.1 ≤ lo
      · obtain rfl : ok = true := hok.2 ⟨q, hq, hql⟩
        clear hok hf hq
        go_wp2
        go_ret
        exact ⟨false, _, _, n, rfl, hrs1, Fr.of_below hb, .inl rfl, .inr (.inl ⟨h, rfl, rfl, rfl, _, q, HQ.out, hq2, hqh⟩)⟩
      · obtain rfl : ok = false := by
          cases ok with
          | false => rfl
          | true => obtain ⟨r, hr, hr2⟩ := hok.1 rfl; rw [hq] at hr; cases hr; exact absurd hr2 hql
        clear hok hf hq
        go_wp2
        go_ret
        exact ⟨false, _, _, n, rfl, hrs1, Fr.of_below hb, .inl rfl, .inr (.inl ⟨h, rfl, rfl, rfl, _, q, HQ.out, hq2, hqh⟩)⟩
    · obtain rfl : ok = false := by
        cases ok with
        | false => rfl
        | true => obtain ⟨r, hr, hr2⟩ := hok.1 rfl; rw [hq] at hr; cases hr; exact absurd hr2 (by omega)
      clear hok hf hq
      have HR' : Hid (∀ q' R0', q :: R0 = q' :: R0' → lo < q'.2 ∧ hi ≤ q'.1) := by
        intro q' R0' e
        simp at e
        rw [← e.1]; exact ⟨hq2, by omega⟩
      by_cases haft : q.1 = hi
      · have hqe : (q.1 == hi) = true := by simpa using haft
        have HA := hid haft
        clear haft
        rcases nil_or_last L with hL0 | ⟨L0, p, hL0⟩
        · obtain rfl : k = 0 := by have := HLk.out; rw [hL0] at this; simpa using this.symm
          simp only [Nat.zero_mul, Nat.zero_add] at c0 c1
          have g0 := hgf 0
          have HL0 := hid hL0
          clear hgf hL0
          go_wp2
          go_ret
          exact ⟨true, _, (rs.set 0 (lo, q.2)), _, rfl, rs_fin2 H hT hrs1.hdr hrs1.row HN.out (by rw [List.length_set]; exact HN.out) (flat_set_lo rs 0 q lo HQ.out), Fr.setCell (Fr.setCell (Fr.of_below hb) _ (fun _ => .inr rfl)) _ (fun _ => .inl rfl), .inl rfl, .inr (.inr ⟨h, rfl, rfl, L, _, HRS.out, HL.out, HR'.out, AddTo3 (by have hL0 := HL0.out; intro L0 p e; rw [hL0] at e; have := congrArg List.length e; simp at this) HA.out (by rw [HRS.out]; exact set_mid HLk.out)⟩)⟩
        · obtain ⟨m, rfl⟩ : ∃ m, k = m + 1 := ⟨L0.length, by have := HLk.out; rw [hL0] at this; simpa using this.symm⟩
          have hp : rs[m]? = some p := by rw [HRS.out, hL0]; have := HLk.out; rw [hL0] at this; simp at this; simp [← this]
          obtain ⟨b0, b1⟩ := run_cells hblk1 hp
          have HP := hid hp
          have HL0 := hid hL0
          have g0 := hgf ((m + 1) * 2)
          have g1 := hgf (m * 2 + 1)
          clear hp hL0 hgf
          by_cases hbef : p.2 = lo
          · have hbe : (p.2 == lo) = true := by simpa using hbef
            have HF := hid hbef
            clear hbef
            go_wp2_with fail
            go_region
            go_wp2_with fail
            have hb2 : Blk (w1.setCell ⟨g, m * 2 + 1, none⟩ (.int .i64 q.2)).drew g (flat (rs.set m (p.1, q.2)) ++ rest) 68 := by
              have hmlt : m * 2 + 1 < (flat rs).length := by rw [flat_length, HN.out]; omega
              have := hblk1.set (m * 2 + 1) (.int .i64 q.2)
              rw [set_front hmlt, flat_set_hi rs m p q.2 HP.out] at this
              exact this
            have hlen2 : (flat (rs.set m (p.1, q.2))).length = N * 2 := by rw [flat_length, List.length_set, HN.out]
            have hlen3 : (flat (rs.set m (p.1, q.2))).length + rest.length = cap * 2 := by have := HL2.out; rw [flat_length, HN.out] at this; rw [hlen2]; exact this
            have hD := delete58 B g N cap (m + 1) (flat (rs.set m (p.1, q.2))) rest _ hB hlt hnc (by unfold maxLen; omega) hlen2 hlen3 hb2 (flat_one _)
            rw [show ((m + 1 : Nat) : Int) = (m : Int) + 1 by omega] at hD
            refine hD.mono ?_
            clear hD
            rintro e w2 ⟨rfl, hown, hf2⟩
            have HE : Hid ((flat (rs.set m (p.1, q.2))).take ((m + 1) * 2) ++ (flat (rs.set m (p.1, q.2))).drop ((m + 1 + 1) * 2) = flat (L0 ++ (p.1, q.2) :: R0)) := by
              show _ = _
              rw [HRS.out, HL0.out]; exact erase_mid (by rw [← HL0.out]; exact HLk.out)
            rw [HE.out] at hown
            have HLEN : Hid ((L0 ++ (p.1, q.2) :: R0).length = N - 1) := by
              show _ = _
              have e1 := HN.out; rw [HRS.out, HL0.out] at e1; simp at e1; simp; omega
            have hs2 := ((hrs1.hdr.other (.int .i64 q.2) (a := ⟨g, m * 2 + 1, none⟩) hne).drew).fr hf2 hne
            have d0 := hs2.cell (H.at0 _ _)
            have d1 := hs2.cell (H.at1 _ _)
            have d2 := hs2.free o
            have d3 := hs2.free (o + 1)
            have HFIN := hid (fun n' => rs_fin (n' := n') H hT hs2 (by rw [HLEN.out]; exact hown))
            have HFR : Hid (Fr (fun k => k = s ∨ (Value.slice (some ⟨g, 0, none⟩) N cap).ownBlock = some k) w w2) := Fr.trans (Fr.drew (Fr.setCell (p := ⟨g, m * 2 + 1, none⟩) (Fr.of_below hb) (.int .i64 q.2) (fun _ => .inr rfl))) (one_fr rfl hf2)
            clear hs2 hown hf2 hblk hblk1 hrs hrs1 hb2 hlen2 hlen3
            go_wp2
            go_ret
            exact ⟨true, _, _, _, rfl, HFIN.out (n + (hi - lo)), Fr.setCell (Fr.setCell HFR.out _ (fun _ => .inl rfl)) _ (fun _ => .inl rfl), .inl rfl, .inr (.inr ⟨h, rfl, rfl, L, _, HRS.out, HL.out, HR'.out, .inl ⟨L0, p, q, R0, HL0.out, HF.out, rfl, HA.out, rfl⟩⟩)⟩
          · have hbe : (p.2 == lo) = false := by simpa using hbef
            have HF := hid hbef
            clear hbef
            go_wp2
            go_ret
            exact ⟨true, _, (rs.set (m + 1) (lo, q.2)), _, rfl, rs_fin2 H hT hrs1.hdr hrs1.row HN.out (by rw [List.length_set]; exact HN.out) (flat_set_lo rs (m + 1) q lo HQ.out), Fr.setCell (Fr.setCell (Fr.of_below hb) _ (fun _ => .inr rfl)) _ (fun _ => .inl rfl), .inl rfl, .inr (.inr ⟨h, rfl, rfl, L, _, HRS.out, HL.out, HR'.out, AddTo3 (last_ne HL0.out HF.out) HA.out (by rw [HRS.out]; exact set_mid HLk.out)⟩)⟩
      · have hqe : (q.1 == hi) = false := by simpa using haft
        have HA := hid haft
        clear haft
        rcases nil_or_last L with hL0 | ⟨L0, p, hL0⟩
        · obtain rfl : k = 0 := by have := HLk.out; rw [hL0] at this; simpa using this.symm
          simp only [Nat.zero_mul, Nat.zero_add] at c0 c1
          have HL0 := hid hL0
          clear hL0
          go_wp2_with fail
          refine (insert59 B w1.heap.size 0 N _ (flat rs) lo hi _ (by simp; omega) (by omega) (by omega) (by have := hrs1.row.alloc (.cells #[.int .i64 lo, .int .i64 hi] 68); rwa [HN.out] at this) (flat_one rs) (Blk.new w1 [.int .i64 lo, .int .i64 hi] 68) (by simp [Value.ownBlock]; have := hblk1.lt; omega)).mono ?_
          rintro e w2 ⟨v', rfl, hown, hf2, hat⟩
          rw [flat_ins HRS.out HLk.out] at hown
          have hs2 := (hrs1.hdr.alloc (.cells #[.int .i64 lo, .int .i64 hi] 68)).fr hf2 (row_ne hT hrs1.hdr hrs1.row)
          have d0 := hs2.cell (H.at0 _ _)
          have d1 := hs2.cell (H.at1 _ _)
          have d2 := hs2.free o
          have d3 := hs2.free (o + 1)
          obtain ⟨g', cap', hv'⟩ : ∃ g' cap', v' = .slice (some ⟨g', 0, none⟩) (N + 1) cap' := by
            rcases ownsRow_form hown with ⟨_, h0, _⟩ | ⟨g', cap', _, hv', _⟩
            · omega
            · exact ⟨g', cap', hv'⟩
          have HFIN := hid (fun n' => ins_fin (n' := n') H hT hb hrs1.hdr hown HN.out HRS.out hf2 (row_ne hT hrs1.hdr hrs1.row) hat hrs.hdr.lt)
          rw [hv'] at HFIN ⊢
          clear hs2 hown hf2 hat hv' hblk hblk1 hrs hrs1
          go_wp2
          go_ret
          obtain ⟨z1, z2, z3⟩ := HFIN.out (n + (hi - lo))
          exact ⟨true, _, _, _, rfl, z1, z2, z3, .inr (.inr ⟨h, rfl, rfl, L, _, HRS.out, HL.out, HR'.out, AddTo4 (by have hL0 := HL0.out; intro L0 p e; rw [hL0] at e; have := congrArg List.length e; simp at this) (head_ne rfl HA.out)⟩)⟩
        · obtain ⟨m, rfl⟩ : ∃ m, k = m + 1 := ⟨L0.length, by have := HLk.out; rw [hL0] at this; simpa using this.symm⟩
          have hp : rs[m]? = some p := by rw [HRS.out, hL0]; have := HLk.out; rw [hL0] at this; simp at this; simp [← this]
          obtain ⟨b0, b1⟩ := run_cells hblk1 hp
          have HP := hid hp
          have HL0 := hid hL0
          have g1 := hgf (m * 2 + 1)
          clear hp hL0 hgf
          by_cases hbef : p.2 = lo
          · have hbe : (p.2 == lo) = true := by simpa using hbef
            have HF := hid hbef
            clear hbef
            go_wp2
            go_ret
            exact ⟨true, _, (rs.set m (p.1, hi)), _, rfl, rs_fin2 H hT hrs1.hdr hrs1.row HN.out (by rw [List.length_set]; exact HN.out) (flat_set_hi rs m p hi HP.out), Fr.setCell (Fr.setCell (Fr.of_below hb) _ (fun _ => .inr rfl)) _ (fun _ => .inl rfl), .inl rfl, .inr (.inr ⟨h, rfl, rfl, L, _, HRS.out, HL.out, HR'.out, .inr (.inl ⟨L0, p, HL0.out, HF.out, head_ne rfl HA.out, by rw [HRS.out, HL0.out]; exact set_last (by rw [← HL0.out]; exact HLk.out)⟩)⟩)⟩
          · have hbe : (p.2 == lo) = false := by simpa using hbef
            have HF := hid hbef
            clear hbef
            go_wp2_with fail
            refine (insert59 B w1.heap.size (m + 1) N _ (flat rs) lo hi _ (by simp; omega) (by omega) (by omega) (by have := hrs1.row.alloc (.cells #[.int .i64 lo, .int .i64 hi] 68); rwa [HN.out] at this) (flat_one rs) (Blk.new w1 [.int .i64 lo, .int .i64 hi] 68) (by simp [Value.ownBlock]; have := hblk1.lt; omega)).mono ?_
            rintro e w2 ⟨v', rfl, hown, hf2, hat⟩
            rw [flat_ins HRS.out HLk.out] at hown
            have hs2 := (hrs1.hdr.alloc (.cells #[.int .i64 lo, .int .i64 hi] 68)).fr hf2 (row_ne hT hrs1.hdr hrs1.row)
            have d0 := hs2.cell (H.at0 _ _)
            have d1 := hs2.cell (H.at1 _ _)
            have d2 := hs2.free o
            have d3 := hs2.free (o + 1)
            obtain ⟨g', cap', hv'⟩ : ∃ g' cap', v' = .slice (some ⟨g', 0, none⟩) (N + 1) cap' := by
              rcases ownsRow_form hown with ⟨_, h0, _⟩ | ⟨g', cap', _, hv', _⟩
              · omega
              · exact ⟨g', cap', hv'⟩
            have HFIN := hid (fun n' => ins_fin (n' := n') H hT hb hrs1.hdr hown HN.out HRS.out hf2 (row_ne hT hrs1.hdr hrs1.row) hat hrs.hdr.lt)
            rw [hv'] at HFIN ⊢
            clear hs2 hown hf2 hat hv' hblk hblk1 hrs hrs1
            go_wp2
            go_ret
            obtain ⟨z1, z2, z3⟩ := HFIN.out (n + (hi - lo))
            exact ⟨true, _, _, _, rfl, z1, z2, z3, .inr (.inr ⟨h, rfl, rfl, L, _, HRS.out, HL.out, HR'.out, AddTo4 (last_ne HL0.out HF.out) (head_ne rfl HA.out)⟩)⟩

set_option maxHeartbeats 4000000 in
set_option maxRecDepth 100000 in
theorem add_nil (H : Hdr mk o) (hT : T ≠ 68) (B s : Nat) (n lo hi : Int) (w : World) (hBs : B ≤ s) (hrs : RS mk T w B s (.slice none 0 0) [] n) (hn0 : 0 ≤ n) (hn1 : n ≤ 2305843009213693950)
    (h : lo < hi) (hlo : -1152921504606846975 ≤ lo) (hhi : hi ≤ 1152921504606846975) :
    Calls Try.prog 50 #[.pointer (some ⟨s, o, none⟩), .int .i64 lo, .int .i64 hi] w (AddPost mk T B s (.slice none 0 0) [] n lo hi w) := by
  go_enter Try.func50, Try.ntmps50
  go_wp2_with fail
  refine (find57 B s o _ [] lo w (by simp) (fun i i' r r' _ h => by simp at h) hrs.row (hrs.hdr.cell (H.at0 _ _))).mono ?_
  rintro e w1 ⟨k, ok, rfl, hf, hok, hb⟩
  have hrs1 := hrs.keep hb
  have e0 := hrs1.hdr.cell (H.at0 _ _)
  have e1 := hrs1.hdr.cell (H.at1 _ _)
  have f0 := hrs1.hdr.free o
  have f1 := hrs1.hdr.free (o + 1)
  have hBw : B ≤ w1.heap.size := Nat.le_trans (Nat.le_trans hBs (Nat.le_of_lt hrs.hdr.lt)) hb.size
  obtain rfl : k = 0 := by have := hf.1; simpa using this
  obtain rfl : ok = false := by
    cases ok with
    | false => rfl
    | true => obtain ⟨r, hr, hr2⟩ := hok.1 rfl; simp at hr
  clear hok hf
  go_wp2_with fail
  refine (insert59 B w1.heap.size 0 0 _ [] lo hi _ (by simp; omega) (by omega) (by omega) (World.ownsRow_nil _ _ _ _) (by simp) (Blk.new w1 [.int .i64 lo, .int .i64 hi] 68) (by simp [Value.ownBlock])).mono ?_
  rintro e w2 ⟨v', rfl, hown, hf2, hat⟩
  have hs2 := (hrs1.hdr.alloc (.cells #[.int .i64 lo, .int .i64 hi] 68)).fr hf2 (by simp [Value.ownBlock])
  have d0 := hs2.cell (H.at0 _ _)
  have d1 := hs2.cell (H.at1 _ _)
  have d2 := hs2.free o
  have d3 := hs2.free (o + 1)
  obtain ⟨g', cap', hv'⟩ : ∃ g' cap', v' = .slice (some ⟨g', 0, none⟩) (0 + 1) cap' := by
    rcases ownsRow_form hown with ⟨_, h0, _⟩ | ⟨g', cap', _, hv', _⟩
    · omega
    · exact ⟨g', cap', hv'⟩
  have HFIN := hid (fun n' => ins_fin (L := []) (R := []) (rs := []) (N := 0) (n' := n') H hT hb hrs1.hdr (by simpa [flat] using hown) rfl rfl hf2 (by simp [Value.ownBlock]) hat hrs.hdr.lt)
  rw [hv'] at HFIN ⊢
  clear hs2 hown hf2 hat hv' hrs hrs1
  go_wp2
  go_ret
  obtain ⟨z1, z2, z3⟩ := HFIN.out (n + (hi - lo))
  exact ⟨true, _, _, _, rfl, z1, z2, z3, .inr (.inr ⟨h, rfl, rfl, [], [], rfl, (by simp), (by intro q R0 e; cases e), AddTo4 (by intro L0 p e; have := congrArg List.length e; simp at this) (by intro q R0 e; cases e)⟩)⟩

/-- addRange, whatever the run set. -/
theorem add50 (H : Hdr mk o) (hT : T ≠ 68) (B s : Nat) (v : Value) (rs : List (Int × Int)) (n lo hi : Int) (w : World) (hBs : B ≤ s) (hrs : RS mk T w B s v rs n) (hasc : Asc rs) (hlen : rs.length ≤ 100000000) (hn0 : 0 ≤ n) (hn1 : n ≤ 2305843009213693950)
    (hlo : -1152921504606846975 ≤ lo) (hhi : hi ≤ 1152921504606846975) :
    Calls Try.prog 50 #[.pointer (some ⟨s, o, none⟩), .int .i64 lo, .int .i64 hi] w (AddPost mk T B s v rs n lo hi w) := by
  rcases Int.lt_or_le lo hi with h | h
  · rcases ownsRow_form hrs.row with ⟨rfl, h0, _⟩ | ⟨g, cap, rest, rfl, hg, hnc, hcm, hl, hl2, hblk⟩
    · obtain rfl : rs = [] := List.eq_nil_of_length_eq_zero h0
      exact add_nil H hT B s n lo hi w hBs hrs hn0 hn1 h hlo hhi
    · exact add_slice H hT B s g rs.length cap rest rs n lo hi w hg hBs hrs rfl hasc hlen hn0 hn1 h hlo hhi hnc hcm hl2 hblk
  · exact add_le H hT B s v rs n lo hi w hrs h
end

end Go.Proofs.Qxb6600404a
