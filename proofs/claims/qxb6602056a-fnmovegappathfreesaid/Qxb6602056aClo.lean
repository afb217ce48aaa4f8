import Derived.Test.Qxb6602056aFrm
namespace Go.Proofs.Qxb6602056a
open Go.RowKit

set_option maxRecDepth 20000 in
set_option maxHeartbeats 1000000 in
theorem own11s (x : Addr) (n c : Nat) (D : List Int) (w : World) (hn : n = D.length) (hn2 : n ≤ 1048576) (hc : ∀ i, i < n → w.cell? (x.add i) = some (.int .i32 (D.getD i 0))) :
    Calls Try.prog 11 #[.slice (some x) n c] w fun e w' => ∃ v, e = .returned v ∧ Own .i32 21 w' w.heap.size v D ∧ Below w.heap.size w w' := by
  obtain ⟨X, hX⟩ : ∃ X, X = D.map (Value.int .i32) := ⟨_, rfl⟩
  have HX : Hid (X = D.map (Value.int .i32)) := hX
  have HXl : Hid (X.length = n) := by show _ = _; rw [hX, List.length_map, hn]
  have HX1 : Hid (∀ v ∈ X, v.oneCell' = true) := by rw [hX]; exact ints_oneCell _ _
  have HXc : Hid (∀ j v, X[j]? = some v → w.cell? (x.add j) = some v) := by
    intro j v hj
    have hjl : j < n := by rw [← HXl.out]; exact (List.getElem?_eq_some_iff.1 hj).1
    rw [hc j hjl, ← hj, hX]
    simp [List.getD, show j < D.length by omega]
  have HN : Hid (n = D.length) := hn
  clear hc hn hX
  obtain ⟨i0, hi, hz0, hz1, hz2⟩ := info_parts Try.info21
  have hnil := fun (w : World) (a : Option Addr) (n c : Nat) => Lib.run_eql_slice_nil (P := Try.prog) w 22 21 a n c 0 0 Try.underlying22
  go_enter Try.func11, Try.ntmps11
  go_wp2_with (first
    | (at_make; refine wpList_make_full _ rfl (.tmp 7) (.tmp 7) 22 rfl w.heap.size 21 i0 (.int .i32 0) 1 Try.underlying22 hi hz0 hz1 .i64 .i64 (n : Int) (n : Int) n rfl rfl rfl rfl (by rw [hz2]; omega) (by unfold maxLen; omega) (Nat.le_refl _) ?_; intro w1 hown1 hgrow1; obtain ⟨Zs, hZ0, hZl⟩ := own_block hown1; have hZ : Hid (w1.heap[w.heap.size]? = some (.cells Zs.toArray 21 (0, 0))) := hZ0; clear hZ0; have hb1 : Below w.heap.size w w1 := (Below.refl _ _).grown hgrow1 (Nat.le_refl _) (by simp))
    | (have _t := hZ; refine wpList_copy_splice rfl (.tmp 9) (.tmp 10) 22 22 rfl 21 Try.underlying22 Try.size21 (some ⟨w.heap.size, 0, none⟩) (some x) n n n c rfl rfl w.heap.size 0 Zs 21 hZ.out X (by rw [HXl.out]; simp) (fun _ => ⟨rfl, _, rfl, fun j v hj => (hb1.cell (block_lt_of_cell (HXc.out j v hj))).trans (HXc.out j v hj)⟩) (by rw [HXl.out]; omega) HX1.out w.heap.size w hb1 (Nat.le_refl _) ?_; intro w2 HG2 hB2; clear _t hZ hb1 hown1 hgrow1))
  go_ret
  have e1 : splice Zs 0 X = X := by
    simp only [splice, List.take_zero, List.nil_append, Nat.zero_add]
    rw [List.drop_eq_nil_of_le (by rw [HXl.out]; omega), List.append_nil]
  refine ⟨_, rfl, ⟨by simp, .inr ⟨w.heap.size, n, X.toArray, by rw [← HN.out]; rfl, Nat.le_refl _, by rw [← e1]; exact HG2.out, by rw [HN.out]; omega, by unfold maxLen; omega, by simp [HXl.out], ?_⟩⟩, hB2⟩
  rw [HX.out]
  simp
  exact List.take_of_length_le (by simp)

set_option maxRecDepth 20000 in
set_option maxHeartbeats 1000000 in
theorem own12s (x : Addr) (n c : Nat) (D : List Int) (w : World) (hn : n = D.length) (hn2 : n ≤ 1048576) (hc : ∀ i, i < n → w.cell? (x.add i) = some (.int .i64 (D.getD i 0))) :
    Calls Try.prog 12 #[.slice (some x) n c] w fun e w' => ∃ v, e = .returned v ∧ Own .i64 3 w' w.heap.size v D ∧ Below w.heap.size w w' := by
  obtain ⟨X, hX⟩ : ∃ X, X = D.map (Value.int .i64) := ⟨_, rfl⟩
  have HX : Hid (X = D.map (Value.int .i64)) := hX
  have HXl : Hid (X.length = n) := by show _ = _; rw [hX, List.length_map, hn]
  have HX1 : Hid (∀ v ∈ X, v.oneCell' = true) := by rw [hX]; exact ints_oneCell _ _
  have HXc : Hid (∀ j v, X[j]? = some v → w.cell? (x.add j) = some v) := by
    intro j v hj
    have hjl : j < n := by rw [← HXl.out]; exact (List.getElem?_eq_some_iff.1 hj).1
    rw [hc j hjl, ← hj, hX]
    simp [List.getD, show j < D.length by omega]
  have HN : Hid (n = D.length) := hn
  clear hc hn hX
  obtain ⟨i0, hi, hz0, hz1, hz2⟩ := info_parts Try.info3
  have hnil := fun (w : World) (a : Option Addr) (n c : Nat) => Lib.run_eql_slice_nil (P := Try.prog) w 23 3 a n c 0 0 Try.underlying23
  go_enter Try.func12, Try.ntmps12
  go_wp2_with (first
    | (at_make; refine wpList_make_full _ rfl (.tmp 7) (.tmp 7) 23 rfl w.heap.size 3 i0 (.int .i64 0) 1 Try.underlying23 hi hz0 hz1 .i64 .i64 (n : Int) (n : Int) n rfl rfl rfl rfl (by rw [hz2]; omega) (by unfold maxLen; omega) (Nat.le_refl _) ?_; intro w1 hown1 hgrow1; obtain ⟨Zs, hZ0, hZl⟩ := own_block hown1; have hZ : Hid (w1.heap[w.heap.size]? = some (.cells Zs.toArray 3 (0, 0))) := hZ0; clear hZ0; have hb1 : Below w.heap.size w w1 := (Below.refl _ _).grown hgrow1 (Nat.le_refl _) (by simp))
    | (have _t := hZ; refine wpList_copy_splice rfl (.tmp 9) (.tmp 10) 23 23 rfl 3 Try.underlying23 Try.size3 (some ⟨w.heap.size, 0, none⟩) (some x) n n n c rfl rfl w.heap.size 0 Zs 3 hZ.out X (by rw [HXl.out]; simp) (fun _ => ⟨rfl, _, rfl, fun j v hj => (hb1.cell (block_lt_of_cell (HXc.out j v hj))).trans (HXc.out j v hj)⟩) (by rw [HXl.out]; omega) HX1.out w.heap.size w hb1 (Nat.le_refl _) ?_; intro w2 HG2 hB2; clear _t hZ hb1 hown1 hgrow1))
  go_ret
  have e1 : splice Zs 0 X = X := by
    simp only [splice, List.take_zero, List.nil_append, Nat.zero_add]
    rw [List.drop_eq_nil_of_le (by rw [HXl.out]; omega), List.append_nil]
  refine ⟨_, rfl, ⟨by simp, .inr ⟨w.heap.size, n, X.toArray, by rw [← HN.out]; rfl, Nat.le_refl _, by rw [← e1]; exact HG2.out, by rw [HN.out]; omega, by unfold maxLen; omega, by simp [HXl.out], ?_⟩⟩, hB2⟩
  rw [HX.out]
  simp
  exact List.take_of_length_le (by simp)

set_option maxRecDepth 20000 in
theorem own11n (w : World) :
    Calls Try.prog 11 #[.slice none 0 0] w fun e w' => ∃ v, e = .returned v ∧ Own .i32 21 w' w.heap.size v [] ∧ Below w.heap.size w w' := by
  have hnil := fun (w : World) (a : Option Addr) (n c : Nat) => Lib.run_eql_slice_nil (P := Try.prog) w 22 21 a n c 0 0 Try.underlying22
  go_enter Try.func11, Try.ntmps11
  go_wp2
  go_ret
  exact ⟨_, rfl, Own.nil _ _ _ _, Below.refl _ _⟩
theorem own11 (p : Option Addr) (n c : Nat) (D : List Int) (w : World) (h : In .i32 w p n c D) (hn2 : n ≤ 1048576) :
    Calls Try.prog 11 #[.slice p n c] w fun e w' => ∃ v, e = .returned v ∧ Own .i32 21 w' w.heap.size v D ∧ Below w.heap.size w w' := by
  rcases h with ⟨rfl, rfl, rfl, rfl⟩ | ⟨x, rfl, h1, h2⟩
  · exact own11n w
  · exact own11s x n c D w h1 hn2 h2

set_option maxRecDepth 20000 in
theorem own12n (w : World) :
    Calls Try.prog 12 #[.slice none 0 0] w fun e w' => ∃ v, e = .returned v ∧ Own .i64 3 w' w.heap.size v [] ∧ Below w.heap.size w w' := by
  have hnil := fun (w : World) (a : Option Addr) (n c : Nat) => Lib.run_eql_slice_nil (P := Try.prog) w 23 3 a n c 0 0 Try.underlying23
  go_enter Try.func12, Try.ntmps12
  go_wp2
  go_ret
  exact ⟨_, rfl, Own.nil _ _ _ _, Below.refl _ _⟩
theorem own12 (p : Option Addr) (n c : Nat) (D : List Int) (w : World) (h : In .i64 w p n c D) (hn2 : n ≤ 1048576) :
    Calls Try.prog 12 #[.slice p n c] w fun e w' => ∃ v, e = .returned v ∧ Own .i64 3 w' w.heap.size v D ∧ Below w.heap.size w w' := by
  rcases h with ⟨rfl, rfl, rfl, rfl⟩ | ⟨x, rfl, h1, h2⟩
  · exact own12n w
  · exact own12s x n c D w h1 hn2 h2
end Go.Proofs.Qxb6602056a
