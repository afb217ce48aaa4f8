import Derived.Test.Qxb6601961aRd
namespace Go.Proofs.Qxb6601961a
open Go.RowKit
set_option linter.unusedSimpArgs false

theorem Try.cells5 : Try.prog.cellsOf 5 = 1 := by kernel_rfl

set_option maxRecDepth 20000 in
set_option maxHeartbeats 1000000 in
theorem eq22 (x0 x1 x2 x3 x4 x5 x6 x7 x8 x9 x10 x11 x12 x13 x14 : Int) (d : Nat) (w : World) : (Op.equalIn (d + 2) 22 (.agg #[.int .u8 x0, .int .u8 x1, .int .u8 x2, .int .u8 x3, .int .u8 x4, .int .u8 x5, .int .u8 x6, .int .u8 x7, .int .u8 x8, .int .u8 x9, .int .u8 x10, .int .u8 x11, .int .u8 x12, .int .u8 x13, .int .u8 x14]) (.agg #[.int .u8 x0, .int .u8 x1, .int .u8 x2, .int .u8 x3, .int .u8 x4, .int .u8 x5, .int .u8 x6, .int .u8 x7, .int .u8 x8, .int .u8 x9, .int .u8 x10, .int .u8 x11, .int .u8 x12, .int .u8 x13, .int .u8 x14])).run Try.prog w = .ok true w := by
  obtain ⟨i0, hi, hz0, hz1, hz2⟩ := info_parts Try.info5
  rw [run_equalIn_array (P := Try.prog) w (d + 1) _ _ Try.underlying22 hi, Try.cells5]
  have hx : ∀ a : Int, (a == a) = true := fun a => by simp
  simp [List.range_eq_range', List.range', Op.eqItems, go_sem]

set_option maxRecDepth 20000 in
set_option maxHeartbeats 1000000 in
theorem eq30 (x0 x1 x2 x3 x4 x5 x6 x7 x8 x9 x10 x11 x12 x13 x14 n : Int) (b0 b1 b2 b3 b4 : Bool) (w : World) : (binOp .eql 30 (.agg #[.int .u8 x0, .int .u8 x1, .int .u8 x2, .int .u8 x3, .int .u8 x4, .int .u8 x5, .int .u8 x6, .int .u8 x7, .int .u8 x8, .int .u8 x9, .int .u8 x10, .int .u8 x11, .int .u8 x12, .int .u8 x13, .int .u8 x14, .int .i64 n, .bool b0, .bool b1, .bool b2, .bool b3, .bool b4]) (.agg #[.int .u8 x0, .int .u8 x1, .int .u8 x2, .int .u8 x3, .int .u8 x4, .int .u8 x5, .int .u8 x6, .int .u8 x7, .int .u8 x8, .int .u8 x9, .int .u8 x10, .int .u8 x11, .int .u8 x12, .int .u8 x13, .int .u8 x14, .int .i64 n, .bool b0, .bool b1, .bool b2, .bool b3, .bool b4])).run Try.prog w = .ok (.bool true) w := by
  have h := eq22 x0 x1 x2 x3 x4 x5 x6 x7 x8 x9 x10 x11 x12 x13 x14 9997 w
  simp [go_sem, h]

set_option maxRecDepth 20000 in
set_option maxHeartbeats 1000000 in
theorem new9 (x0 x1 x2 x3 x4 x5 x6 x7 x8 x9 x10 x11 x12 x13 x14 n : Int) (b0 b1 b2 b3 b4 : Bool) (w : World) :
    Calls Try.prog 9 #[.agg #[.int .u8 x0, .int .u8 x1, .int .u8 x2, .int .u8 x3, .int .u8 x4, .int .u8 x5, .int .u8 x6, .int .u8 x7, .int .u8 x8, .int .u8 x9, .int .u8 x10, .int .u8 x11, .int .u8 x12, .int .u8 x13, .int .u8 x14], .int .i64 n, .bool b0, .bool b1, .bool b2, .bool b3, .bool b4] w fun e w' => ∃ g, e = .returned (.pointer (some ⟨g, 0, none⟩)) ∧ w.heap.size ≤ g ∧ w'.heap[g]? = some (.cells #[.int .u8 x0, .int .u8 x1, .int .u8 x2, .int .u8 x3, .int .u8 x4, .int .u8 x5, .int .u8 x6, .int .u8 x7, .int .u8 x8, .int .u8 x9, .int .u8 x10, .int .u8 x11, .int .u8 x12, .int .u8 x13, .int .u8 x14, .int .i64 n, .bool b0, .bool b1, .bool b2, .bool b3, .bool b4] 41 (0, 0)) ∧ Below w.heap.size w w' := by
  go_enter Try.func9, Try.ntmps9
  go_wp2
  go_ret
  refine ⟨w.heap.size + 1, rfl, by omega, ?_, ((Below.refl _ _).alloc (Nat.le_refl _) _).alloc (by simp) _⟩
  exact heap_alloc2_new w _ _
end Go.Proofs.Qxb6601961a
