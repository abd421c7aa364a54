/-
  Seat b6600404a: ZZLinkIsZero on a zero link.
-/
import Derived.Test.Qxb6600404aDense4
namespace Go.Proofs.Qxb6600404a
open Go.RowKit
set_option linter.unusedVariables false
set_option linter.unusedSimpArgs false

theorem guard83 : Try.prog.eqGuardType Try.prog.depth 83 = false := by kernel_rfl
theorem fields83 : Try.prog.underlying 83 = some (.struct (Try.prog.fieldsOf 83)) := by kernel_rfl
theorem held83 : Try.prog.stoodInHeld 83 = false := by kernel_rfl

theorem eqFloat75 (w : World) (d : Nat) : (Op.equalIn (d + 1) 75 (.float .f64 0) (.float .f64 0)).run Try.prog w = .ok true w := by
  simp [Op.equalIn, run_underlying Try.underlying75]
  try kernel_rfl

set_option maxHeartbeats 2000000 in
set_option maxRecDepth 100000 in
theorem eqZero83 (w : World) : (binOp .eql 83 (.agg (linkC 0).toArray) (.agg (linkC 0).toArray)).run Try.prog w = .ok (.bool true) w := by
  rw [run_eql_struct, show (10000 : Nat) = 9999 + 1 from rfl, run_equalIn_agg w 9999 83 _ _ fields83 held83]
  have hf := eqFloat75 (d := 9996)
  simp only [Program.fieldsOf, Try.underlying83, linkC]
  go_simp

theorem run_cellsFrom {w : World} {g o n : Nat} {cs : List Value} (h : w.rangeAt g o cs) (hn : cs.length = n) : (loadCellsFrom ⟨g, o, none⟩ 0 n #[]).run Try.prog w = .ok cs.toArray w := by
  subst hn
  have := run_loadCells_list (P := Try.prog) w ⟨g, o, none⟩ cs (fun j v hv => by rw [Addr.add_mid]; exact h j v hv)
  simpa [loadCells] using this

/-- A struct's load out of the middle of a block, in a region that draws its order and only reads. -/
theorem wpQuiet_load_mid {P : Program} {ops : Array Oper} {C : World → Prop} {Q : Act → Prop} {a : Act} {op : Oper} {rest : List Oper} (hw : Region.wanted op (yielded ops a.tmps) = true) (ty : TypeId) (x : Operand) (ho : op.op = .load ty x)
    (b o : Nat) (hx : a.eval x = .pointer (some ⟨b, o, none⟩)) (cs : List Value) (d : TypeDesc) (hC : ∀ w, C w → w.rangeAt b o cs) (hu : P.underlying ty = some d) (hd : d.isRow = true) (hi : (P.info? ty).map (·.size) = some cs.length)
    (h : wpQuiet P ops C Q rest (a.put op.dst (.agg cs.toArray))) : wpQuiet P ops C Q (op :: rest) a :=
  BigFrame.wpQuiet_want hw fun K hK => ⟨.agg cs.toArray, fun w hw' => by
    unfold Oper.quietAt execOp
    simp only [ho, hx, Instr.loadAt, Instr.sureAddr, Sem.run_bind, Sem.run_pure, Result.andThen_ok, run_loadVar_mid w b o ty cs d (hC w hw') hu hd hi]
    exact ⟨rfl, rfl⟩, hK _ h⟩

open BigFrame in
set_option maxHeartbeats 2000000 in
set_option maxRecDepth 100000 in
theorem isZero28 (g : Nat) (w : World) (hb : Blk w g (linkC 0) 83) :
    Calls Try.prog 28 #[.pointer (some ⟨g, 0, none⟩)] w (fun e w' => e = .returned (.bool true) ∧ ∃ q, w' = (w.alloc (.cells (linkC 0).toArray 83)).drewN q) := by
  have hg := guard83
  have hb1 : Blk (w.alloc (.cells (linkC 0).toArray 83)) g (linkC 0) 83 := hb.alloc _
  have hb2 : Blk (w.alloc (.cells (linkC 0).toArray 83)) w.heap.size (linkC 0) 83 := Blk.new w (linkC 0) 83
  have r3 := eqZero83
  go_enter Try.func28, Try.ntmps28
  go_wp2
  generalize hw1 : w.alloc (.cells #[.float .f64 0, .float .f64 0, .float .f64 0, .float .f64 0, .float .f64 0, .float .f64 0, .float .f64 0, .float .f64 0, .float .f64 0, .float .f64 0, .int .u32 0, .int .u8 0, .int .u8 0, .int .u8 0, .int .u8 0, .int .u8 0, .int .u8 0, .bool false, .bool false] 83) = w1
  change w.alloc (.cells (linkC 0).toArray 83) = w1 at hw1
  rw [hw1] at hb1 hb2
  have HW := hid hw1
  obtain ⟨d, hu, hd⟩ := row83
  have r1 : ∀ w', (∃ n, w' = w1.drewN n) → w'.rangeAt g 0 (linkC 0) := by rintro w' ⟨q, rfl⟩ j v hv; rw [Nat.zero_add]; exact (hb1.drewN q).cell hv
  have r2 : ∀ w', (∃ n, w' = w1.drewN n) → w'.rangeAt w.heap.size 0 (linkC 0) := by rintro w' ⟨q, rfl⟩ j v hv; rw [Nat.zero_add]; exact (hb2.drewN q).cell hv
  have hsz := size83 (linkC_length 0)
  generalize linkC 0 = zz at r1 r2 r3 hsz
  generalize w.heap.size = N at r2 ⊢
  clear hb1 hb2 hw1 hb
  refine wp_region_quiet_lit (by kernel_rfl) (by kernel_rfl) ?_
  go_big_quiet_step (fail)
  go_big_quiet_step (fail)
  refine wpQuiet_load_mid rfl 83 _ rfl g 0 rfl zz d r1 hu hd hsz ?_
  refine wpQuiet_load_mid rfl 83 _ rfl N 0 rfl zz d r2 hu hd hsz ?_
  change wpQuiet _ _ _ _ _ { tmps := #[.pointer (some ⟨g, 0, none⟩), undef, .bool false, .pointer (some ⟨N, 0, none⟩), .pointer (some ⟨g, 0, none⟩), .pointer (some ⟨g, 0, none⟩), .agg zz.toArray, .agg zz.toArray, undef], defers := [] }
  go_big_quiet_step (fail)
  go_big_quiet_step (fail)
  refine wpQuiet_nil ?_
  rintro w' ⟨q, rfl⟩
  go_wp2
  go_ret
  exact ⟨rfl, _, by rw [HW.out]⟩

end Go.Proofs.Qxb6600404a
