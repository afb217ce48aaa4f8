import Derived.Test.Qxb6601961aEq
namespace Go.Proofs.Qxb6601961a
open Go.RowKit
set_option linter.unusedSimpArgs false

theorem Try.size22 : (Try.prog.info? 22).map (·.size) = some 15 := by kernel_rfl

/-- A slice as keep and cat take it. -/
def Sl (w : World) (p : Option Addr) (D : List Int) : Prop := ∀ k, k < D.length → ∃ g, p = some ⟨g, 0, none⟩ ∧ w.cell? ⟨g, k, none⟩ = some (.int .u8 (D.getD k 0))
theorem Sl.below {w w' : World} {p : Option Addr} {D : List Int} (h : Sl w p D) (hb : Below w.heap.size w w') : Sl w' p D := fun k hk => by
  obtain ⟨g, h1, h2⟩ := h k hk
  exact ⟨g, h1, (hb.cell (p := ⟨g, k, none⟩) (cell_lt h2)).trans h2⟩
theorem Nw.sl {w : World} {base : Nat} {v : Value} {D : List Int} (h : Nw w base v D) : ∃ p c, v = .slice p D.length c ∧ Sl w p D := by
  rcases h with ⟨h1, h2⟩ | ⟨g, h1, h2, h3, h4⟩
  · subst h2; exact ⟨none, 0, h1, fun k hk => absurd hk (by simp)⟩
  · exact ⟨_, _, h1, fun k hk => ⟨g, rfl, by have := h4 k hk; rw [Nat.zero_add] at this; exact this⟩⟩

/-- A slice of bytes that came in. -/
def In (w : World) (p : Option Addr) (n c : Nat) (D : List Int) : Prop :=
  (p = none ∧ n = 0 ∧ c = 0 ∧ D = []) ∨ ∃ x, p = some x ∧ n = D.length ∧ ∀ i, i < n → w.cell? (x.add i) = some (.int .u8 (D.getD i 0))
theorem In.len {w : World} {p : Option Addr} {n c : Nat} {D : List Int} (h : In w p n c D) : n = D.length := by
  rcases h with ⟨_, h, _, h'⟩ | ⟨_, _, h, _⟩
  · subst h'; exact h
  · exact h
theorem cell_lt' {w : World} {a : Addr} {v : Value} (h : w.cell? a = some v) : a.block < w.heap.size := block_lt_of_cell h
theorem In.below {w w' : World} {p : Option Addr} {n c : Nat} {D : List Int} (h : In w p n c D) (hb : Below w.heap.size w w') : In w' p n c D := by
  rcases h with h | ⟨x, h1, h2, h3⟩
  · exact .inl h
  · exact .inr ⟨x, h1, h2, fun i hi => (hb.cell (cell_lt' (h3 i hi))).trans (h3 i hi)⟩
theorem clone8 (p : Option Addr) (n c : Nat) (D : List Int) (w : World) (h : In w p n c D) (hn2 : n ≤ 1048576) (hb0 : ∀ i, 0 ≤ D.getD i 0 ∧ D.getD i 0 ≤ 255) :
    Calls Try.prog 8 #[.slice p n c] w fun e w' => ∃ q d, e = .returned (.slice q D.length d) ∧ Sl w' q D ∧ Below w.heap.size w w' := by
  have fin : ∀ (e : Ending) (w' : World), (∃ v, e = .returned v ∧ Nw w' w.heap.size v D ∧ Below w.heap.size w w') → ∃ q d, e = .returned (.slice q D.length d) ∧ Sl w' q D ∧ Below w.heap.size w w' := by
    rintro e w' ⟨v, rfl, h1, h2⟩
    obtain ⟨q, d, rfl, h3⟩ := h1.sl
    exact ⟨q, d, rfl, h3, h2⟩
  rcases h with ⟨rfl, rfl, rfl, rfl⟩ | ⟨x, rfl, h1, h2⟩
  · exact (clone8n w).mono fin
  · exact (clone8s x n c D w h1 hn2 h2 hb0).mono fin
theorem cat13' (p1 p2 : Option Addr) (c1 c2 : Nat) (A B : List Int) (w : World) (hn : A.length + B.length ≤ 1048576) (f1 : Sl w p1 A) (f2 : Sl w p2 B) :
    Calls Try.prog 13 #[.slice p1 A.length c1, .slice p2 B.length c2] w fun e w' => ∃ q d, e = .returned (.slice q (A ++ B).length d) ∧ Sl w' q (A ++ B) ∧ Below w.heap.size w w' :=
  (cat13 p1 p2 A.length c1 B.length c2 A B w rfl rfl hn f1 f2).mono fun e w' ⟨v, he, h1, h2⟩ => by
    obtain ⟨q, d, rfl, h3⟩ := h1.sl
    exact ⟨q, d, he, h3, h2⟩
theorem lt_of_some {w : World} {g : Nat} {o : Obj} (h : w.heap[g]? = some o) : g < w.heap.size := (Array.getElem?_eq_some_iff.1 h).1
theorem list15 {L : List Int} (h : L.length = 15) : ∃ y0 y1 y2 y3 y4 y5 y6 y7 y8 y9 y10 y11 y12 y13 y14 : Int, L = [y0, y1, y2, y3, y4, y5, y6, y7, y8, y9, y10, y11, y12, y13, y14] := by
  match L, h with
  | [y0, y1, y2, y3, y4, y5, y6, y7, y8, y9, y10, y11, y12, y13, y14], _ => exact ⟨y0, y1, y2, y3, y4, y5, y6, y7, y8, y9, y10, y11, y12, y13, y14, rfl⟩

set_option maxRecDepth 20000 in
set_option maxHeartbeats 4000000 in
theorem law4 (x0 x1 x2 x3 x4 x5 x6 x7 x8 x9 x10 x11 x12 x13 x14 : Int) (n : Nat) (b0 b1 b2 b3 b4 : Bool) (p1 p2 : Option Addr) (n1 c1 n2 c2 : Nat) (A B : List Int) (w : World) (i1 : In w p1 n1 c1 A) (i2 : In w p2 n2 c2 B)
    (hA : ∀ i, 0 ≤ A.getD i 0 ∧ A.getD i 0 ≤ 255) (hB : ∀ i, 0 ≤ B.getD i 0 ∧ B.getD i 0 ≤ 255) (hn : n1 + n2 ≤ 1048576) (hm : n + n1 + n2 ≤ 9223372036854775807) :
    Calls Try.prog 4 #[.agg #[.int .u8 x0, .int .u8 x1, .int .u8 x2, .int .u8 x3, .int .u8 x4, .int .u8 x5, .int .u8 x6, .int .u8 x7, .int .u8 x8, .int .u8 x9, .int .u8 x10, .int .u8 x11, .int .u8 x12, .int .u8 x13, .int .u8 x14], .int .i64 (n : Int), .bool b0, .bool b1, .bool b2, .bool b3, .bool b4, .slice p1 n1 c1, .slice p2 n2 c2] w fun e w' => e = .returned (.bool true) ∧ Below w.heap.size w w' := by
  have I1 : Hid (∀ w', Below w.heap.size w w' → In w' p1 n1 c1 A) := fun w' h => i1.below h
  have I2 : Hid (∀ w', Below w.heap.size w w' → In w' p2 n2 c2 B) := fun w' h => i2.below h
  have L1 : Hid (n1 = A.length) := i1.len
  have L2 : Hid (n2 = B.length) := i2.len
  have HA : Hid (∀ i, 0 ≤ A.getD i 0 ∧ A.getD i 0 ≤ 255) := hA
  have HB : Hid (∀ i, 0 ≤ B.getD i 0 ∧ B.getD i 0 ≤ 255) := hB
  have hm1 : (n : Int) ≤ 9223372036854775807 - (n1 : Int) - (n2 : Int) := by omega
  clear i1 i2 hA hB
  go_enter Try.func4, Try.ntmps4
  go_wp2_with (first | (go_at_call 14; go_in))
  have hb0 : Below w.heap.size w ((w.alloc (.cells #[.int .u8 x0, .int .u8 x1, .int .u8 x2, .int .u8 x3, .int .u8 x4, .int .u8 x5, .int .u8 x6, .int .u8 x7, .int .u8 x8, .int .u8 x9, .int .u8 x10, .int .u8 x11, .int .u8 x12, .int .u8 x13, .int .u8 x14] 22)).alloc (.cells #[.int .u8 x0, .int .u8 x1, .int .u8 x2, .int .u8 x3, .int .u8 x4, .int .u8 x5, .int .u8 x6, .int .u8 x7, .int .u8 x8, .int .u8 x9, .int .u8 x10, .int .u8 x11, .int .u8 x12, .int .u8 x13, .int .u8 x14] 22)) := ((Below.refl _ _).alloc (Nat.le_refl _) _).alloc (by simp) _
  have HH0 : Hid (((w.alloc (.cells #[.int .u8 x0, .int .u8 x1, .int .u8 x2, .int .u8 x3, .int .u8 x4, .int .u8 x5, .int .u8 x6, .int .u8 x7, .int .u8 x8, .int .u8 x9, .int .u8 x10, .int .u8 x11, .int .u8 x12, .int .u8 x13, .int .u8 x14] 22)).alloc (.cells #[.int .u8 x0, .int .u8 x1, .int .u8 x2, .int .u8 x3, .int .u8 x4, .int .u8 x5, .int .u8 x6, .int .u8 x7, .int .u8 x8, .int .u8 x9, .int .u8 x10, .int .u8 x11, .int .u8 x12, .int .u8 x13, .int .u8 x14] 22)).heap[w.heap.size]? = some (.cells #[.int .u8 x0, .int .u8 x1, .int .u8 x2, .int .u8 x3, .int .u8 x4, .int .u8 x5, .int .u8 x6, .int .u8 x7, .int .u8 x8, .int .u8 x9, .int .u8 x10, .int .u8 x11, .int .u8 x12, .int .u8 x13, .int .u8 x14] 22 (0, 0))) := heap_alloc2_old w _ _
  have s0 : w.heap.size < ((w.alloc (.cells #[.int .u8 x0, .int .u8 x1, .int .u8 x2, .int .u8 x3, .int .u8 x4, .int .u8 x5, .int .u8 x6, .int .u8 x7, .int .u8 x8, .int .u8 x9, .int .u8 x10, .int .u8 x11, .int .u8 x12, .int .u8 x13, .int .u8 x14] 22)).alloc (.cells #[.int .u8 x0, .int .u8 x1, .int .u8 x2, .int .u8 x3, .int .u8 x4, .int .u8 x5, .int .u8 x6, .int .u8 x7, .int .u8 x8, .int .u8 x9, .int .u8 x10, .int .u8 x11, .int .u8 x12, .int .u8 x13, .int .u8 x14] 22)).heap.size := by simp; omega
  generalize (w.alloc (.cells #[.int .u8 x0, .int .u8 x1, .int .u8 x2, .int .u8 x3, .int .u8 x4, .int .u8 x5, .int .u8 x6, .int .u8 x7, .int .u8 x8, .int .u8 x9, .int .u8 x10, .int .u8 x11, .int .u8 x12, .int .u8 x13, .int .u8 x14] 22)).alloc (.cells #[.int .u8 x0, .int .u8 x1, .int .u8 x2, .int .u8 x3, .int .u8 x4, .int .u8 x5, .int .u8 x6, .int .u8 x7, .int .u8 x8, .int .u8 x9, .int .u8 x10, .int .u8 x11, .int .u8 x12, .int .u8 x13, .int .u8 x14] 22) = w0 at hb0 HH0 s0 ⊢
  refine (clone8 p1 n1 c1 A w0 (I1.out _ hb0) (by omega) HA.out).mono ?_
  rintro e w1 ⟨q1, d1, rfl, F1, k1⟩
  have hb1 : Below w.heap.size w w1 := hb0.trans (k1.mono (by omega))
  have s1 := k1.size
  have HH1 : Hid (w1.heap[w.heap.size]? = some (.cells #[.int .u8 x0, .int .u8 x1, .int .u8 x2, .int .u8 x3, .int .u8 x4, .int .u8 x5, .int .u8 x6, .int .u8 x7, .int .u8 x8, .int .u8 x9, .int .u8 x10, .int .u8 x11, .int .u8 x12, .int .u8 x13, .int .u8 x14] 22 (0, 0))) := (k1.block _ s0).trans HH0.out
  have G1 : Hid (Sl w1 q1 A) := F1
  clear F1 HH0
  go_wp2_with fail
  refine (clone8 p2 n2 c2 B w1 (I2.out _ hb1) (by omega) HB.out).mono ?_
  rintro e w2 ⟨q2, d2, rfl, F2, k2⟩
  have hb2 : Below w.heap.size w w2 := hb1.trans (k2.mono (by omega))
  have s2 := k2.size
  have HH2 : Hid (w2.heap[w.heap.size]? = some (.cells #[.int .u8 x0, .int .u8 x1, .int .u8 x2, .int .u8 x3, .int .u8 x4, .int .u8 x5, .int .u8 x6, .int .u8 x7, .int .u8 x8, .int .u8 x9, .int .u8 x10, .int .u8 x11, .int .u8 x12, .int .u8 x13, .int .u8 x14] 22 (0, 0))) := (k2.block _ (by omega)).trans HH1.out
  have G2 : Hid (Sl w2 q2 B) := F2
  have G12 : Hid (Sl w2 q1 A) := G1.out.below k2
  clear F2 HH1 G1
  go_wp2_with fail
  refine (cat13' q1 q2 d1 d2 A B w2 (by have := L1.out; have := L2.out; omega) G12.out G2.out).mono ?_
  rintro e w3 ⟨q3, d3, rfl, F3, k3⟩
  have hb3 : Below w.heap.size w w3 := hb2.trans (k3.mono (by omega))
  have s3 := k3.size
  have HH3 : Hid (w3.heap[w.heap.size]? = some (.cells #[.int .u8 x0, .int .u8 x1, .int .u8 x2, .int .u8 x3, .int .u8 x4, .int .u8 x5, .int .u8 x6, .int .u8 x7, .int .u8 x8, .int .u8 x9, .int .u8 x10, .int .u8 x11, .int .u8 x12, .int .u8 x13, .int .u8 x14] 22 (0, 0))) := (k3.block _ (by omega)).trans HH2.out
  have G3 : Hid (Sl w3 q3 (A ++ B)) := F3
  have G13 : Hid (Sl w3 q1 A) := G12.out.below k3
  have G23 : Hid (Sl w3 q2 B) := G2.out.below k3
  clear F3 HH2 G12 G2
  obtain ⟨D, hD⟩ : ∃ D, D = A ++ B := ⟨_, rfl⟩
  have HD : Hid (D = A ++ B) := hD
  rw [← hD] at G3 ⊢
  clear hD
  go_wp2_with (first
    | (refine wpList_load_row rfl 22 (.tmp 9) rfl w.heap.size rfl 22 #[.int .u8 x0, .int .u8 x1, .int .u8 x2, .int .u8 x3, .int .u8 x4, .int .u8 x5, .int .u8 x6, .int .u8 x7, .int .u8 x8, .int .u8 x9, .int .u8 x10, .int .u8 x11, .int .u8 x12, .int .u8 x13, .int .u8 x14] (0, 0) _ HH3.out Try.underlying22 rfl Try.size22 ?_))
  refine (new9 x0 x1 x2 x3 x4 x5 x6 x7 x8 x9 x10 x11 x12 x13 x14 n b0 b1 b2 b3 b4 w3).mono ?_
  rintro e w4 ⟨g1, rfl, hg1, M4, k4⟩
  have N4 : Hid (w4.heap[g1]? = some (.cells (scan [x0, x1, x2, x3, x4, x5, x6, x7, x8, x9, x10, x11, x12, x13, x14] (n : Int) b0 b1 b2 b3 b4).toArray 41 (0, 0))) := M4
  have lg1 := lt_of_some N4.out
  clear M4
  go_wp2_with fail
  refine (keep10 g1 n A.length d1 [x0, x1, x2, x3, x4, x5, x6, x7, x8, x9, x10, x11, x12, x13, x14] A b0 b1 b2 b3 b4 q1 w4 rfl N4.out rfl (by have := L1.out; omega) (G13.out.below k4)).mono ?_
  rintro e w5 ⟨rfl, M5, k5⟩
  have K5 : Below w3.heap.size w3 w5 := k4.trans (k5.mono hg1)
  have N5 : Hid (w5.heap[g1]? = some (.cells (scan (kp [x0, x1, x2, x3, x4, x5, x6, x7, x8, x9, x10, x11, x12, x13, x14] n A) ((n + A.length : Nat) : Int) b0 b1 b2 b3 b4).toArray 41 (0, 0))) := M5
  clear M5 N4
  go_wp2_with fail
  refine (keep10 g1 (n + A.length) B.length d2 (kp [x0, x1, x2, x3, x4, x5, x6, x7, x8, x9, x10, x11, x12, x13, x14] n A) B b0 b1 b2 b3 b4 q2 w5 (kp_len rfl n A) N5.out rfl (by have := L1.out; have := L2.out; omega) (G23.out.below K5)).mono ?_
  rintro e w6 ⟨rfl, M6, k6⟩
  have K6 : Below w3.heap.size w3 w6 := K5.trans (k6.mono hg1)
  have N6 : Hid (w6.heap[g1]? = some (.cells (scan (kp (kp [x0, x1, x2, x3, x4, x5, x6, x7, x8, x9, x10, x11, x12, x13, x14] n A) (n + A.length) B) ((n + A.length + B.length : Nat) : Int) b0 b1 b2 b3 b4).toArray 41 (0, 0))) := M6
  have lg6 := lt_of_some N6.out
  have s6 := K6.size
  have HH6 : Hid (w6.heap[w.heap.size]? = some (.cells #[.int .u8 x0, .int .u8 x1, .int .u8 x2, .int .u8 x3, .int .u8 x4, .int .u8 x5, .int .u8 x6, .int .u8 x7, .int .u8 x8, .int .u8 x9, .int .u8 x10, .int .u8 x11, .int .u8 x12, .int .u8 x13, .int .u8 x14] 22 (0, 0))) := (K6.block _ (by omega)).trans HH3.out
  clear M6 N5 HH3
  go_wp2_with (first
    | (refine wpList_load_row rfl 22 (.tmp 9) rfl w.heap.size rfl 22 #[.int .u8 x0, .int .u8 x1, .int .u8 x2, .int .u8 x3, .int .u8 x4, .int .u8 x5, .int .u8 x6, .int .u8 x7, .int .u8 x8, .int .u8 x9, .int .u8 x10, .int .u8 x11, .int .u8 x12, .int .u8 x13, .int .u8 x14] (0, 0) _ HH6.out Try.underlying22 rfl Try.size22 ?_))
  refine (new9 x0 x1 x2 x3 x4 x5 x6 x7 x8 x9 x10 x11 x12 x13 x14 n b0 b1 b2 b3 b4 w6).mono ?_
  rintro e w7 ⟨g2, rfl, hg2, M7, k7⟩
  have K7 : Below w3.heap.size w3 w7 := K6.trans (k7.mono s6)
  have N7 : Hid (w7.heap[g2]? = some (.cells (scan [x0, x1, x2, x3, x4, x5, x6, x7, x8, x9, x10, x11, x12, x13, x14] (n : Int) b0 b1 b2 b3 b4).toArray 41 (0, 0))) := M7
  have O7 : Hid (w7.heap[g1]? = some (.cells (scan (kp (kp [x0, x1, x2, x3, x4, x5, x6, x7, x8, x9, x10, x11, x12, x13, x14] n A) (n + A.length) B) ((n + A.length + B.length : Nat) : Int) b0 b1 b2 b3 b4).toArray 41 (0, 0))) := (k7.block _ lg6).trans N6.out
  clear M7 N6
  go_wp2_with fail
  refine (keep10 g2 n D.length d3 [x0, x1, x2, x3, x4, x5, x6, x7, x8, x9, x10, x11, x12, x13, x14] D b0 b1 b2 b3 b4 q3 w7 rfl N7.out rfl (by have := L1.out; have := L2.out; rw [HD.out, List.length_append]; omega) (G3.out.below K7)).mono ?_
  rintro e w8 ⟨rfl, M8, k8⟩
  obtain ⟨y0, y1, y2, y3, y4, y5, y6, y7, y8, y9, y10, y11, y12, y13, y14, hy⟩ := list15 (kp_len (ln := [x0, x1, x2, x3, x4, x5, x6, x7, x8, x9, x10, x11, x12, x13, x14]) rfl n D)
  have hy' : kp (kp [x0, x1, x2, x3, x4, x5, x6, x7, x8, x9, x10, x11, x12, x13, x14] n A) (n + A.length) B = [y0, y1, y2, y3, y4, y5, y6, y7, y8, y9, y10, y11, y12, y13, y14] := by rw [kp_kp rfl n A B, ← HD.out]; exact hy
  have N8 : Hid (w8.heap[g2]? = some (.cells #[.int .u8 y0, .int .u8 y1, .int .u8 y2, .int .u8 y3, .int .u8 y4, .int .u8 y5, .int .u8 y6, .int .u8 y7, .int .u8 y8, .int .u8 y9, .int .u8 y10, .int .u8 y11, .int .u8 y12, .int .u8 y13, .int .u8 y14, .int .i64 ((n + D.length : Nat) : Int), .bool b0, .bool b1, .bool b2, .bool b3, .bool b4] 41 (0, 0))) := by
    rw [hy] at M8; exact M8
  have O8 : Hid (w8.heap[g1]? = some (.cells #[.int .u8 y0, .int .u8 y1, .int .u8 y2, .int .u8 y3, .int .u8 y4, .int .u8 y5, .int .u8 y6, .int .u8 y7, .int .u8 y8, .int .u8 y9, .int .u8 y10, .int .u8 y11, .int .u8 y12, .int .u8 y13, .int .u8 y14, .int .i64 ((n + D.length : Nat) : Int), .bool b0, .bool b1, .bool b2, .bool b3, .bool b4] 41 (0, 0))) := by
    have h := (k8.block g1 (by omega)).trans O7.out
    rw [hy', show n + A.length + B.length = n + D.length by rw [HD.out, List.length_append]; omega] at h
    exact h
  have K8 : Below w3.heap.size w3 w8 := K7.trans (k8.mono (by omega))
  have lg8 := lt_of_some N8.out
  clear M8 N7 O7 hy hy'
  obtain ⟨N, hN⟩ : ∃ N : Int, N = ((n + D.length : Nat) : Int) := ⟨_, rfl⟩
  rw [← hN] at N8 O8
  clear hN
  go_wp2_with fail
  refine (read11 g1 y0 y1 y2 y3 y4 y5 y6 y7 y8 y9 y10 y11 y12 y13 y14 N b0 b1 b2 b3 b4 w8 O8.out).mono ?_
  rintro e w9 ⟨rfl, k9⟩
  have N9 : Hid (w9.heap[g2]? = some (.cells #[.int .u8 y0, .int .u8 y1, .int .u8 y2, .int .u8 y3, .int .u8 y4, .int .u8 y5, .int .u8 y6, .int .u8 y7, .int .u8 y8, .int .u8 y9, .int .u8 y10, .int .u8 y11, .int .u8 y12, .int .u8 y13, .int .u8 y14, .int .i64 N, .bool b0, .bool b1, .bool b2, .bool b3, .bool b4] 41 (0, 0))) := (k9.block g2 lg8).trans N8.out
  have s8 := K8.size
  have s9 := k9.size
  clear N8 O8
  go_wp2_with fail
  refine (read11 g2 y0 y1 y2 y3 y4 y5 y6 y7 y8 y9 y10 y11 y12 y13 y14 N b0 b1 b2 b3 b4 w9 N9.out).mono ?_
  rintro e w10 ⟨rfl, k10⟩
  have hend : Below w.heap.size w w10 := ((hb3.trans (K8.mono (by omega))).trans (k9.mono (by omega))).trans (k10.mono (by omega))
  have hEq := fun w => eq30 y0 y1 y2 y3 y4 y5 y6 y7 y8 y9 y10 y11 y12 y13 y14 N b0 b1 b2 b3 b4 w
  clear N9
  go_wp2
  go_ret
  exact ⟨rfl, hend⟩
end Go.Proofs.Qxb6601961a
