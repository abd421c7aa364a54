/-
  Seat b6600404a: laws of no program: append with room, copy and clear on a block that is known whole, whatever the element's size in cells.
-/
import Derived.Test.Qxb6600404aKit
import Derived.Laws.CopyOwn
import Derived.Deep.RegionLaw
namespace Go.Proofs.Qxb6600404a
open Go.RowKit
set_option linter.unusedVariables false
set_option linter.unusedSimpArgs false

theorem Blk.setRow {w : World} {g : Nat} {cs : List Value} {t : TypeId} (h : Blk w g cs t) (ds : List Value) : Blk (w.setRow g ds.toArray) g ds t := setRow_heap w g _ _ t _ h
theorem Fr.setRow {M : Nat → Prop} {a w : World} (h : Fr M a w) {g : Nat} (cs : Array Value) (hg : g < a.heap.size → M g) : Fr M a (w.setRow g cs) :=
  ⟨h.os, h.tape, h.output, by simpa [World.setRow] using h.size, fun k hk hm => by
    rw [setRow_other w g k cs (fun e => hm (by subst e; exact hg hk))]; exact h.block k hk hm⟩

theorem splice_eq {α : Type} (L : List α) (o : Nat) (cs : List α) : L.take o ++ cs ++ L.drop (o + cs.length) = splice L o cs := by simp [splice]

section
variable {P : Program}

/-- append where there is room: the row as a list. -/
theorem run_append_blk (w : World) (t ty e : TypeId) (i : TypeInfo) (size : Nat) (ht : P.underlying t = some (.slice e)) (hi : P.info? e = some i) (hs : i.size = size)
    (g n cap : Nat) (cur : List Value) (hg : Blk w g cur e) (ao : Option Addr) (m c : Nat) (news : List Value) (hl : news.length = m * size)
    (hnone : ao = none → m = 0 ∧ c = 0) (hnews : ∀ a, ao = some a → ∀ j u, news[j]? = some u → w.cell? (a.add j) = some u) (h1 : ∀ u ∈ news, u.oneCell' = true)
    (hroom : n + m ≤ cap) (hfit : n * size + news.length ≤ cur.length) :
    ∃ w', (Builtin.append_ #[t, t] ty #[.slice (some ⟨g, 0, none⟩) n cap, .slice ao m c]).run P w = .ok (.slice (some ⟨g, 0, none⟩) (n + m) cap) w' ∧ Blk w' g (splice cur (n * size) news) e ∧ Fr (fun k => k = g) w w' := by
  cases ao with
  | none =>
    obtain ⟨rfl, rfl⟩ := hnone rfl
    obtain rfl : news = [] := List.eq_nil_of_length_eq_zero (by simpa using hl)
    have hnc : n ≤ cap := by omega
    refine ⟨w, ?_, ?_, Fr.refl _ _⟩
    · simp [Builtin.append_, run_underlying ht, sizeOf, typeInfo, hi, Builtin.lenOf, Builtin.firstCells, hnc, storeCells]
    · simpa [splice] using hg
  | some a =>
    subst hs
    have hr := run_append_room (P := P) w t ty e i ht hi g n cap _ hg a m c news hl (hnews a rfl) h1 hroom (by simpa using hfit)
    refine ⟨_, hr, ?_, ?_⟩
    · rw [show (cur.toArray.toList.take (n * i.size) ++ news ++ cur.toArray.toList.drop (n * i.size + news.length)) = splice cur (n * i.size) news by simp [splice]]
      exact hg.setRow _
    · exact (Fr.refl _ _).setRow _ (fun _ => rfl)

/-- .. as one step of a region that draws its order. -/
theorem step_append_blk {ops : Array Oper} {o : Oper} {a : Act} {w : World} {K : Act → World → Prop} {Q : Exit → Act → World → Prop} {E : Prop}
    (hgd : o.guard = none) (s x : Operand) (t : TypeId) (hop : o.op = Op.call { callee := Callee.builtin Builtin.append, args := #[s, x], argTypes := #[t, t] })
    (e : TypeId) (i : TypeInfo) (size : Nat) (ht : P.underlying t = some (.slice e)) (hi : P.info? e = some i) (hsz : i.size = size)
    (g n cap : Nat) (cur : List Value) (hs : a.eval s = .slice (some ⟨g, 0, none⟩) n cap) (hg : Blk w g cur e)
    (ao : Option Addr) (m c : Nat) (news : List Value) (hx : a.eval x = .slice ao m c) (hl : news.length = m * size)
    (hnone : ao = none → m = 0 ∧ c = 0) (hnews : ∀ a, ao = some a → ∀ j u, news[j]? = some u → w.cell? (a.add j) = some u) (h1 : ∀ u ∈ news, u.oneCell' = true)
    (hroom : n + m ≤ cap) (hfit : n * size + news.length ≤ cur.length)
    (hK : ∀ w', Blk w' g (splice cur (n * size) news) e → Fr (fun k => k = g) w w' → K (a.put o.dst (.slice (some ⟨g, 0, none⟩) (n + m) cap)) w') :
    if Region.wanted o (yielded ops a.tmps) = true then Oper.wp P o a w K Q else E := by
  have hw : Region.wanted o (yielded ops a.tmps) = true := by simp [Region.wanted, hgd]
  rw [if_pos hw]
  obtain ⟨w', hr, hb, hf⟩ := run_append_blk (P := P) w t o.type e i size ht hi hsz g n cap cur hg ao m c news hl hnone hnews h1 hroom hfit
  unfold Oper.wp
  simp [execOp, hop, resolve, invoke, builtin, hs, hx, hr, Result.andThen]
  exact hK w' hb hf

/-- 'copy(d, s)', d lying in a block that is known whole. -/
theorem run_copy_blk (w : World) (dT sT ty e : TypeId) (i : TypeInfo) (size : Nat) (hu : P.underlying dT = some (.slice e)) (hi : P.info? e = some i) (hsz : i.size = size)
    (dp sp : Option Addr) (dLen dCap sLen sCap : Nat) (g off : Nat) (cur : List Value) (t : TypeId) (hg : Blk w g cur t) (cs : List Value) (hn : cs.length = Nat.min sLen dLen * size)
    (hpos : 0 < cs.length → dp = some ⟨g, off, none⟩ ∧ ∃ ad, sp = some ad ∧ ∀ j v, cs[j]? = some v → w.cell? (ad.add j) = some v) (hsize : 0 < size)
    (hfit : off + cs.length ≤ cur.length) (h1 : ∀ v ∈ cs, v.oneCell' = true) :
    ∃ w', (Builtin.copy_ #[dT, sT] ty #[.slice dp dLen dCap, .slice sp sLen sCap]).run P w = .ok (goInt (Nat.min sLen dLen)) w' ∧ Blk w' g (splice cur off cs) t ∧ Fr (fun k => k = g) w w' := by
  subst hsz
  by_cases h0 : cs.length = 0
  · obtain rfl : cs = [] := List.eq_nil_of_length_eq_zero h0
    have hmin : Nat.min sLen dLen = 0 := by
      rcases Nat.eq_zero_or_pos (Nat.min sLen dLen) with h | h
      · exact h
      · have := Nat.mul_pos h hsize; simp at hn; omega
    refine ⟨w, ?_, by simpa [splice] using hg, Fr.refl _ _⟩
    have hl0 : ∀ a, (loadCells a 0).run P w = .ok #[] w := fun a => run_loadCells_list (P := P) w a [] (by simp)
    have hmin' : min sLen dLen = 0 := hmin
    have h00 : sLen = 0 ∨ dLen = 0 := by omega
    cases sp <;> cases dp <;> simp [Builtin.copy_, run_underlying hu, Builtin.lenOf, Builtin.firstCells, sizeOf, typeInfo, hi, hmin', hl0, storeCells]
  · obtain ⟨rfl, ad, rfl, hsrc⟩ := hpos (by omega)
    have hl := run_loadCells_list (P := P) w ad cs hsrc
    have hst := run_storeCells_at P g off t cs 0 cur.toArray w hg (by simpa using hfit) h1
    refine ⟨w.setRow g (splice cur off cs).toArray, ?_, ?_, ?_⟩
    · simp only [Builtin.copy_, run_underlying hu, Builtin.lenOf, Builtin.firstCells, sizeOf, typeInfo, hi]
      simp only [Nat.add_zero] at hst
      rw [show (cur.toArray.toList.take off ++ cs ++ cur.toArray.toList.drop (off + cs.length)) = splice cur off cs by simp [splice]] at hst
      simp [run_underlying hu, Builtin.lenOf, Builtin.firstCells, sizeOf, typeInfo, hi, ← hn, hl, hst]
    · exact hg.setRow _
    · exact (Fr.refl _ _).setRow _ (fun _ => rfl)

theorem wpList_copy_blk {w : World} {ops : Array Oper} {rest : List Oper} {o : Oper} {a : Act} {Q : Exit → Act → World → Prop} (hgd : o.guard = none) (d s : Operand) (dT sT : TypeId)
    (ho : o.op = .call { callee := .builtin .copy, args := #[d, s], argTypes := #[dT, sT] }) (e : TypeId) (i : TypeInfo) (size : Nat) (hu : P.underlying dT = some (.slice e)) (hi : P.info? e = some i) (hsz : i.size = size)
    (dp sp : Option Addr) (dLen dCap sLen sCap : Nat) (hd : a.eval d = .slice dp dLen dCap) (hs : a.eval s = .slice sp sLen sCap)
    (g off : Nat) (cur : List Value) (t : TypeId) (hg : Blk w g cur t) (cs : List Value) (hn : cs.length = Nat.min sLen dLen * size)
    (hpos : 0 < cs.length → dp = some ⟨g, off, none⟩ ∧ ∃ ad, sp = some ad ∧ ∀ j v, cs[j]? = some v → w.cell? (ad.add j) = some v) (hsize : 0 < size)
    (hfit : off + cs.length ≤ cur.length) (h1 : ∀ v ∈ cs, v.oneCell' = true)
    (h : ∀ w', Blk w' g (splice cur off cs) t → Fr (fun k => k = g) w w' → wpList P ops Q rest (a.put o.dst (goInt (Nat.min sLen dLen))) w') :
    wpList P ops Q (o :: rest) a w := by
  refine wpList_plain hgd fun K hK => ?_
  obtain ⟨w', hr, hb, hf⟩ := run_copy_blk (P := P) w dT sT o.type e i size hu hi hsz dp sp dLen dCap sLen sCap g off cur t hg cs hn hpos hsize hfit h1
  unfold Oper.wp
  simp [execOp, ho, resolve, invoke, builtin, hd, hs, hr, Result.andThen]
  exact hK _ _ (h w' hb hf)

theorem step_copy_blk {ops : Array Oper} {o : Oper} {a : Act} {w : World} {K : Act → World → Prop} {Q : Exit → Act → World → Prop} {E : Prop} (hgd : o.guard = none) (d s : Operand) (dT sT : TypeId)
    (ho : o.op = .call { callee := .builtin .copy, args := #[d, s], argTypes := #[dT, sT] }) (e : TypeId) (i : TypeInfo) (size : Nat) (hu : P.underlying dT = some (.slice e)) (hi : P.info? e = some i) (hsz : i.size = size)
    (dp sp : Option Addr) (dLen dCap sLen sCap : Nat) (hd : a.eval d = .slice dp dLen dCap) (hs : a.eval s = .slice sp sLen sCap)
    (g off : Nat) (cur : List Value) (t : TypeId) (hg : Blk w g cur t) (cs : List Value) (hn : cs.length = Nat.min sLen dLen * size)
    (hpos : 0 < cs.length → dp = some ⟨g, off, none⟩ ∧ ∃ ad, sp = some ad ∧ ∀ j v, cs[j]? = some v → w.cell? (ad.add j) = some v) (hsize : 0 < size)
    (hfit : off + cs.length ≤ cur.length) (h1 : ∀ v ∈ cs, v.oneCell' = true)
    (h : ∀ w', Blk w' g (splice cur off cs) t → Fr (fun k => k = g) w w' → K (a.put o.dst (goInt (Nat.min sLen dLen))) w') :
    if Region.wanted o (yielded ops a.tmps) = true then Oper.wp P o a w K Q else E := by
  have hw : Region.wanted o (yielded ops a.tmps) = true := by simp [Region.wanted, hgd]
  rw [if_pos hw]
  obtain ⟨w', hr, hb, hf⟩ := run_copy_blk (P := P) w dT sT o.type e i size hu hi hsz dp sp dLen dCap sLen sCap g off cur t hg cs hn hpos hsize hfit h1
  unfold Oper.wp
  simp [execOp, ho, resolve, invoke, builtin, hd, hs, hr, Result.andThen]
  exact h w' hb hf

/-- 'clear(s)', s a slice in a block that is known whole. -/
theorem run_clear_blk (w : World) (t e ty : TypeId) (i : TypeInfo) (z : Value) (zs : List Value) (size : Nat) (ht : P.underlying t = some (.slice e)) (hi : P.info? e = some i) (hz : i.zero = some z) (hzs : z.cells = zs.toArray) (hsz : zs.length = size)
    (g off n c : Nat) (cur : List Value) (te : TypeId) (hg : Blk w g cur te) (hn : 0 < n) (hfit : off + n * size ≤ cur.length) (h1 : ∀ v ∈ zs, v.oneCell' = true) (hsize : 0 < size) :
    ∃ w', (Builtin.clear_ #[t] ty #[.slice (some ⟨g, off, none⟩) n c]).run P w = .ok (.tuple #[]) w' ∧ Blk w' g (splice cur off (Builtin.zeroCells zs.toArray n).toList) te ∧ Fr (fun k => k = g) w w' := by
  have hlen : (Builtin.zeroCells zs.toArray n).toList.length = n * size := by simp [Builtin.zeroCells, hsz]
  have hone : ∀ v ∈ (Builtin.zeroCells zs.toArray n).toList, v.oneCell' = true := by
    intro v hv
    simp only [Builtin.zeroCells, Array.toList_map, List.mem_map] at hv
    obtain ⟨j, _, rfl⟩ := hv
    have hj : j % zs.toArray.size < zs.length := by
      have := Nat.mod_lt j (show 0 < zs.length by omega)
      simpa using this
    rw [getElem!_pos zs.toArray _ (by simpa using hj)]
    exact h1 _ (by simp)
  have hst := run_storeCells_at P g off te (Builtin.zeroCells zs.toArray n).toList 0 cur.toArray w hg (by simpa [hlen] using hfit) hone
  simp only [Nat.add_zero] at hst
  rw [show (cur.toArray.toList.take off ++ (Builtin.zeroCells zs.toArray n).toList ++ cur.toArray.toList.drop (off + (Builtin.zeroCells zs.toArray n).toList.length)) = splice cur off (Builtin.zeroCells zs.toArray n).toList by simp [splice]] at hst
  obtain ⟨m, rfl⟩ : ∃ m, n = m + 1 := ⟨n - 1, by omega⟩
  have hv : (zeroValue e).run P w = .ok z w := by simp [zeroValue, typeInfo, hi, hz]
  refine ⟨w.setRow g (splice cur off (Builtin.zeroCells zs.toArray (m + 1)).toList).toArray, ?_, hg.setRow _, (Fr.refl _ _).setRow _ (fun _ => rfl)⟩
  simp [Builtin.clear_, run_underlying ht, hv, hzs, hst]

theorem wpList_clear_blk {w : World} {ops : Array Oper} {rest : List Oper} {o : Oper} {a : Act} {Q : Exit → Act → World → Prop} (hgd : o.guard = none) (s : Operand) (t : TypeId)
    (ho : o.op = .call { callee := .builtin .clear, args := #[s], argTypes := #[t] }) (e : TypeId) (i : TypeInfo) (z : Value) (zs : List Value) (size : Nat) (ht : P.underlying t = some (.slice e)) (hi : P.info? e = some i) (hz : i.zero = some z) (hzs : z.cells = zs.toArray) (hsz : zs.length = size)
    (g off n c : Nat) (cur : List Value) (te : TypeId) (hs : a.eval s = .slice (some ⟨g, off, none⟩) n c) (hg : Blk w g cur te) (hn : 0 < n) (hfit : off + n * size ≤ cur.length) (h1 : ∀ v ∈ zs, v.oneCell' = true) (hsize : 0 < size)
    (h : ∀ w', Blk w' g (splice cur off (Builtin.zeroCells zs.toArray n).toList) te → Fr (fun k => k = g) w w' → wpList P ops Q rest (a.put o.dst (.tuple #[])) w') :
    wpList P ops Q (o :: rest) a w := by
  refine wpList_plain hgd fun K hK => ?_
  obtain ⟨w', hr, hb, hf⟩ := run_clear_blk (P := P) w t e o.type i z zs size ht hi hz hzs hsz g off n c cur te hg hn hfit h1 hsize
  unfold Oper.wp
  simp [execOp, ho, resolve, invoke, builtin, hs, hr, Result.andThen]
  exact hK _ _ (h w' hb hf)
end

end Go.Proofs.Qxb6600404a
