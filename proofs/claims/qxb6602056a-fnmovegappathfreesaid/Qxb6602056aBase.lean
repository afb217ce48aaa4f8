import Derived.Test.Qxb6602056aProg
import Derived.WalkKit
import Derived.WalkSpells
import Derived.WalkLawsBesides
import Derived.Deep.QuietTactic
import Derived.BigQuiet
import Derived.Deep.RegionHeld3
import Derived.Laws.CopyOwn
import Derived.Laws.OwnMore
namespace Go.Proofs.Qxb6602056a
open Go.RowKit

theorem below_drewN' {B : Nat} {a w : World} (h : Below B a w) (n : Nat) : Below B a (w.drewN n) := ⟨h.os, h.tape, h.output, h.size, h.block⟩
theorem cell_lt {w : World} {b o : Nat} {v : Value} (h : w.cell? ⟨b, o, none⟩ = some v) : b < w.heap.size := block_lt_of_cell h
theorem add_none (b o j : Nat) : (⟨b, o, none⟩ : Addr).add j = ⟨b, o + j, none⟩ := by unfold Addr.add; split <;> simp_all
theorem lt_of_some {w : World} {g : Nat} {o : Obj} (h : w.heap[g]? = some o) : g < w.heap.size := (Array.getElem?_eq_some_iff.1 h).1
theorem own_block {w : World} {base g n e : Nat} {xs : List Value} (h : w.ownsRow base e 1 (.slice (some ⟨g, 0, none⟩) n n) n xs) : ∃ Zs : List Value, w.heap[g]? = some (.cells Zs.toArray e (0, 0)) ∧ Zs.length = n := by
  rcases h.2 with ⟨h0, _⟩ | ⟨g', cap', cur, hv, _, hg, _, _, hs, _⟩
  · cases h0
  · simp at hv
    obtain ⟨rfl, rfl⟩ := hv
    exact ⟨cur.toList, by simpa using hg, by simpa using hs⟩
theorem splice_at {Zs X : List Value} {i : Nat} (hi : i < X.length) : (splice Zs 0 X)[i]? = X[i]? := by
  simp only [splice, List.take_zero, List.nil_append]
  rw [List.getElem?_append_left hi]

/-- A slice of integers that came in. -/
def In (k : IntKind) (w : World) (p : Option Addr) (n c : Nat) (D : List Int) : Prop :=
  (p = none ∧ n = 0 ∧ c = 0 ∧ D = []) ∨ ∃ x, p = some x ∧ n = D.length ∧ ∀ i, i < n → w.cell? (x.add i) = some (.int k (D.getD i 0))
theorem In.len {k : IntKind} {w : World} {p : Option Addr} {n c : Nat} {D : List Int} (h : In k w p n c D) : n = D.length := by
  rcases h with ⟨_, h, _, h'⟩ | ⟨_, _, h, _⟩
  · subst h'; exact h
  · exact h
theorem In.below {k : IntKind} {w w' : World} {p : Option Addr} {n c : Nat} {D : List Int} (h : In k w p n c D) (hb : Below w.heap.size w w') : In k w' p n c D := by
  rcases h with h | ⟨x, h1, h2, h3⟩
  · exact .inl h
  · exact .inr ⟨x, h1, h2, fun i hi => (hb.cell (block_lt_of_cell (h3 i hi))).trans (h3 i hi)⟩
/-- A slice at the head of a row of its own, or nil: it reads as D. -/
def Cl (k : IntKind) (w : World) (base : Nat) (v : Value) (D : List Int) : Prop :=
  (v = .slice none 0 0 ∧ D = []) ∨ ∃ g, v = .slice (some ⟨g, 0, none⟩) D.length D.length ∧ base ≤ g ∧ g < w.heap.size ∧ ∀ j, j < D.length → w.cell? ⟨g, j, none⟩ = some (.int k (D.getD j 0))
theorem Cl.below {k : IntKind} {w w' : World} {base : Nat} {v : Value} {D : List Int} (h : Cl k w base v D) {B : Nat} (hb : Below B w w') (hB : ∀ g n c, v = .slice (some ⟨g, 0, none⟩) n c → g < B) : Cl k w' base v D := by
  rcases h with h | ⟨g, h1, h2, h3, h4⟩
  · exact .inl h
  · exact .inr ⟨g, h1, h2, Nat.lt_of_lt_of_le h3 hb.size, fun j hj => (hb.cell (p := ⟨g, j, none⟩) (hB g _ _ h1)).trans (h4 j hj)⟩
theorem Cl.belowAll {k : IntKind} {w w' : World} {base : Nat} {v : Value} {D : List Int} (h : Cl k w base v D) (hb : Below w.heap.size w w') : Cl k w' base v D := by
  rcases h with h | ⟨g, h1, h2, h3, h4⟩
  · exact .inl h
  · exact .inr ⟨g, h1, h2, Nat.lt_of_lt_of_le h3 hb.size, fun j hj => (hb.cell (p := ⟨g, j, none⟩) h3).trans (h4 j hj)⟩
theorem Cl.mono {k : IntKind} {w : World} {base base' : Nat} {v : Value} {D : List Int} (h : Cl k w base v D) (hb : base' ≤ base) : Cl k w base' v D := by
  rcases h with h | ⟨g, h1, h2, h3⟩
  · exact .inl h
  · exact .inr ⟨g, h1, Nat.le_trans hb h2, h3⟩
theorem Cl.inn {k : IntKind} {w : World} {base : Nat} {v : Value} {D : List Int} (h : Cl k w base v D) : ∃ p c, v = .slice p D.length c ∧ In k w p D.length c D := by
  rcases h with ⟨h1, h2⟩ | ⟨g, h1, h2, h3, h4⟩
  · subst h2; exact ⟨none, 0, h1, .inl ⟨rfl, rfl, rfl, rfl⟩⟩
  · exact ⟨_, _, h1, .inr ⟨_, rfl, rfl, fun i hi => by rw [add_none, Nat.zero_add]; exact h4 i hi⟩⟩

theorem Try.size21 : (Try.prog.info? 21).map (·.size) = some 1 := by kernel_rfl
theorem Try.info21 : (Try.prog.info? 21).map (fun i => (i.zero, i.size, i.bytes)) = some (some (.int .i32 0), 1, 4) := by kernel_rfl

set_option maxRecDepth 20000 in
set_option maxHeartbeats 1000000 in
theorem clone11s (x : Addr) (n c : Nat) (D : List Int) (w : World) (hn : n = D.length) (hn2 : n ≤ 1048576) (hc : ∀ i, i < n → w.cell? (x.add i) = some (.int .i32 (D.getD i 0))) :
    Calls Try.prog 11 #[.slice (some x) n c] w fun e w' => ∃ v, e = .returned v ∧ Cl .i32 w' w.heap.size v D ∧ Below w.heap.size w w' := by
  obtain ⟨X, hX⟩ : ∃ X, X = D.map (Value.int .i32) := ⟨_, rfl⟩
  have HX : Hid (X = D.map (Value.int .i32)) := hX
  have HXl : Hid (X.length = n) := by show _ = _; rw [hX, List.length_map, hn]
  have HX1 : Hid (∀ v ∈ X, v.oneCell' = true) := by rw [hX]; exact ints_oneCell _ _
  have HXc : Hid (∀ j v, X[j]? = some v → w.cell? (x.add j) = some v) := by
    intro j v hj
    have hjl : j < n := by rw [← HXl.out]; exact (List.getElem?_eq_some_iff.1 hj).1
    rw [hc j hjl, ← hj, hX]
    simp [List.getD, show j < D.length by omega]
  have HN : Hid (n = D.length) := hn
  clear hc hn hX
  obtain ⟨i0, hi, hz0, hz1, hz2⟩ := info_parts Try.info21
  have hnil := fun (w : World) (a : Option Addr) (n c : Nat) => Lib.run_eql_slice_nil (P := Try.prog) w 22 21 a n c 0 0 Try.underlying22
  go_enter Try.func11, Try.ntmps11
  go_wp2_with (first
    | (at_make; refine wpList_make_full _ rfl (.tmp 7) (.tmp 7) 22 rfl w.heap.size 21 i0 (.int .i32 0) 1 Try.underlying22 hi hz0 hz1 .i64 .i64 (n : Int) (n : Int) n rfl rfl rfl rfl (by rw [hz2]; omega) (by unfold maxLen; omega) (Nat.le_refl _) ?_; intro w1 hown1 hgrow1; obtain ⟨Zs, hZ0, hZl⟩ := own_block hown1; have hZ : Hid (w1.heap[w.heap.size]? = some (.cells Zs.toArray 21 (0, 0))) := hZ0; clear hZ0; have hb1 : Below w.heap.size w w1 := (Below.refl _ _).grown hgrow1 (Nat.le_refl _) (by simp))
    | (have _t := hZ; refine wpList_copy_splice rfl (.tmp 9) (.tmp 10) 22 22 rfl 21 Try.underlying22 Try.size21 (some ⟨w.heap.size, 0, none⟩) (some x) n n n c rfl rfl w.heap.size 0 Zs 21 hZ.out X (by rw [HXl.out]; simp) (fun _ => ⟨rfl, _, rfl, fun j v hj => (hb1.cell (block_lt_of_cell (HXc.out j v hj))).trans (HXc.out j v hj)⟩) (by rw [HXl.out]; omega) HX1.out w.heap.size w hb1 (Nat.le_refl _) ?_; intro w2 HG2 hB2; clear _t hZ hb1 hown1 hgrow1))
  go_ret
  refine ⟨_, rfl, .inr ⟨w.heap.size, ?_, Nat.le_refl _, lt_of_some HG2.out, ?_⟩, hB2⟩
  · rw [← HN.out]; rfl
  · intro j hj
    rw [cell_of_row _ _ j _ _ _ HG2.out]
    have hjX : j < X.length := by rw [HXl.out, HN.out]; exact hj
    simp only [List.getElem?_toArray]
    rw [splice_at hjX, HX.out]
    simp [List.getD, hj]

set_option maxRecDepth 20000 in
theorem clone11n (w : World) :
    Calls Try.prog 11 #[.slice none 0 0] w fun e w' => ∃ v, e = .returned v ∧ Cl .i32 w' w.heap.size v [] ∧ Below w.heap.size w w' := by
  have hnil := fun (w : World) (a : Option Addr) (n c : Nat) => Lib.run_eql_slice_nil (P := Try.prog) w 22 21 a n c 0 0 Try.underlying22
  go_enter Try.func11, Try.ntmps11
  go_wp2
  go_ret
  exact ⟨_, rfl, .inl ⟨rfl, rfl⟩, Below.refl _ _⟩
theorem clone11 (p : Option Addr) (n c : Nat) (D : List Int) (w : World) (h : In .i32 w p n c D) (hn2 : n ≤ 1048576) :
    Calls Try.prog 11 #[.slice p n c] w fun e w' => ∃ v, e = .returned v ∧ Cl .i32 w' w.heap.size v D ∧ Below w.heap.size w w' := by
  rcases h with ⟨rfl, rfl, rfl, rfl⟩ | ⟨x, rfl, h1, h2⟩
  · exact clone11n w
  · exact clone11s x n c D w h1 hn2 h2

theorem Try.size3 : (Try.prog.info? 3).map (·.size) = some 1 := by kernel_rfl
theorem Try.info3 : (Try.prog.info? 3).map (fun i => (i.zero, i.size, i.bytes)) = some (some (.int .i64 0), 1, 8) := by kernel_rfl

set_option maxRecDepth 20000 in
set_option maxHeartbeats 1000000 in
theorem clone12s (x : Addr) (n c : Nat) (D : List Int) (w : World) (hn : n = D.length) (hn2 : n ≤ 1048576) (hc : ∀ i, i < n → w.cell? (x.add i) = some (.int .i64 (D.getD i 0))) :
    Calls Try.prog 12 #[.slice (some x) n c] w fun e w' => ∃ v, e = .returned v ∧ Cl .i64 w' w.heap.size v D ∧ Below w.heap.size w w' := by
  obtain ⟨X, hX⟩ : ∃ X, X = D.map (Value.int .i64) := ⟨_, rfl⟩
  have HX : Hid (X = D.map (Value.int .i64)) := hX
  have HXl : Hid (X.length = n) := by show _ = _; rw [hX, List.length_map, hn]
  have HX1 : Hid (∀ v ∈ X, v.oneCell' = true) := by rw [hX]; exact ints_oneCell _ _
  have HXc : Hid (∀ j v, X[j]? = some v → w.cell? (x.add j) = some v) := by
    intro j v hj
    have hjl : j < n := by rw [← HXl.out]; exact (List.getElem?_eq_some_iff.1 hj).1
    rw [hc j hjl, ← hj, hX]
    simp [List.getD, show j < D.length by omega]
  have HN : Hid (n = D.length) := hn
  clear hc hn hX
  obtain ⟨i0, hi, hz0, hz1, hz2⟩ := info_parts Try.info3
  have hnil := fun (w : World) (a : Option Addr) (n c : Nat) => Lib.run_eql_slice_nil (P := Try.prog) w 23 3 a n c 0 0 Try.underlying23
  go_enter Try.func12, Try.ntmps12
  go_wp2_with (first
    | (at_make; refine wpList_make_full _ rfl (.tmp 7) (.tmp 7) 23 rfl w.heap.size 3 i0 (.int .i64 0) 1 Try.underlying23 hi hz0 hz1 .i64 .i64 (n : Int) (n : Int) n rfl rfl rfl rfl (by rw [hz2]; omega) (by unfold maxLen; omega) (Nat.le_refl _) ?_; intro w1 hown1 hgrow1; obtain ⟨Zs, hZ0, hZl⟩ := own_block hown1; have hZ : Hid (w1.heap[w.heap.size]? = some (.cells Zs.toArray 3 (0, 0))) := hZ0; clear hZ0; have hb1 : Below w.heap.size w w1 := (Below.refl _ _).grown hgrow1 (Nat.le_refl _) (by simp))
    | (have _t := hZ; refine wpList_copy_splice rfl (.tmp 9) (.tmp 10) 23 23 rfl 3 Try.underlying23 Try.size3 (some ⟨w.heap.size, 0, none⟩) (some x) n n n c rfl rfl w.heap.size 0 Zs 3 hZ.out X (by rw [HXl.out]; simp) (fun _ => ⟨rfl, _, rfl, fun j v hj => (hb1.cell (block_lt_of_cell (HXc.out j v hj))).trans (HXc.out j v hj)⟩) (by rw [HXl.out]; omega) HX1.out w.heap.size w hb1 (Nat.le_refl _) ?_; intro w2 HG2 hB2; clear _t hZ hb1 hown1 hgrow1))
  go_ret
  refine ⟨_, rfl, .inr ⟨w.heap.size, ?_, Nat.le_refl _, lt_of_some HG2.out, ?_⟩, hB2⟩
  · rw [← HN.out]; rfl
  · intro j hj
    rw [cell_of_row _ _ j _ _ _ HG2.out]
    have hjX : j < X.length := by rw [HXl.out, HN.out]; exact hj
    simp only [List.getElem?_toArray]
    rw [splice_at hjX, HX.out]
    simp [List.getD, hj]

set_option maxRecDepth 20000 in
theorem clone12n (w : World) :
    Calls Try.prog 12 #[.slice none 0 0] w fun e w' => ∃ v, e = .returned v ∧ Cl .i64 w' w.heap.size v [] ∧ Below w.heap.size w w' := by
  have hnil := fun (w : World) (a : Option Addr) (n c : Nat) => Lib.run_eql_slice_nil (P := Try.prog) w 23 3 a n c 0 0 Try.underlying23
  go_enter Try.func12, Try.ntmps12
  go_wp2
  go_ret
  exact ⟨_, rfl, .inl ⟨rfl, rfl⟩, Below.refl _ _⟩
theorem clone12 (p : Option Addr) (n c : Nat) (D : List Int) (w : World) (h : In .i64 w p n c D) (hn2 : n ≤ 1048576) :
    Calls Try.prog 12 #[.slice p n c] w fun e w' => ∃ v, e = .returned v ∧ Cl .i64 w' w.heap.size v D ∧ Below w.heap.size w w' := by
  rcases h with ⟨rfl, rfl, rfl, rfl⟩ | ⟨x, rfl, h1, h2⟩
  · exact clone12n w
  · exact clone12s x n c D w h1 hn2 h2

end Go.Proofs.Qxb6602056a
