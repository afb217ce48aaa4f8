import Derived.Test.Qxb6602056aBuf
namespace Go.Proofs.Qxb6602056a
open Go.RowKit
set_option linter.unusedSimpArgs false

/-- What a reserve that grows leaves. -/
def Grew (w w' : World) (g gs m : Nat) (bl : Int) (bf af : Value) : Prop :=
  ∃ (H E : Nat) (Q : List Int), Buf w' g (.slice (some ⟨H, 0, none⟩) Q.length Q.length) gs E bl bf af ∧ (∀ j, j < Q.length → w'.cell? ⟨H, j, none⟩ = some (.int .i32 (Q.getD j 0))) ∧ gs + m ≤ E ∧ E ≤ Q.length ∧ Q.length ≤ 10000000 ∧ Below g w w' ∧ w.heap.size ≤ H

def vals (D : List Int) : List Value := D.map (Value.int .i32)
theorem splice_vals (A C : List Int) (o : Nat) : splice (vals A) o (vals C) = vals (splice A o C) := by
  simp [splice, vals]
theorem length_vals (D : List Int) : (vals D).length = D.length := by simp [vals]
theorem made_vals (n : Nat) : (madeCells (Value.int .i32 0).cells (n * 1)).toList = vals (List.replicate n 0) := by
  rw [show (Value.int .i32 0).cells = #[.int .i32 0] from rfl, toList_madeCells_one]
  simp [vals]
theorem own_block_is {w : World} {base g n : Nat} {xs : List Value} (h : w.ownsRow base 21 1 (.slice (some ⟨g, 0, none⟩) n n) n xs) : w.heap[g]? = some (.cells xs.toArray 21 (0, 0)) := by
  rcases h.2 with ⟨h0, _⟩ | ⟨g', cap', cur, hv, _, hg, _, _, hs, ht⟩
  · cases h0
  · simp at hv
    obtain ⟨rfl, rfl⟩ := hv
    rw [hg, ← ht, Nat.mul_one, List.take_of_length_le (by simp [hs])]

theorem grew_of {w w4 : World} {g n gs ge m Sz E T N1 : Nat} {bl : Int} {r bf af : Value} {R : List Int} {Z0 X1 X2 : List Value} (h : Buf w g r gs ge bl bf af)
    (HG : Hid (w4.heap[w.heap.size]? = some (.cells (splice (splice Z0 0 X1) E X2).toArray 21 (0, 0)))) (hB : Below w.heap.size w w4) (HX1 : Hid (X1 = vals (R.take gs))) (HX2 : Hid (X2 = vals (R.drop ge))) (HZ0 : Hid (Z0 = vals (List.replicate Sz 0)))
    (HX1l : Hid (X1.length = gs)) (HX2l : Hid (X2.length = T)) (HET : Hid (E + T = Sz ∧ T = n - ge)) (HSz : Hid (Sz ≤ 10000000 ∧ 2 * n ≤ Sz ∧ N1 + 64 ≤ Sz)) (hfin : Hid (gs + m ≤ E ∧ E ≤ Sz)) :
    Grew w ((w4.setCell ⟨g, 0, none⟩ (.slice (some ⟨w.heap.size, 0, none⟩) Sz Sz)).setCell ⟨g, 2, none⟩ (.int .i64 (E : Int))) g gs m bl bf af := by
  have hlg := lt_of_some h
  obtain ⟨e1, e2, e3⟩ := HSz.out
  have e4 := HET.out
  have e5 := hfin.out
  have l1 : (R.take gs).length = gs := by have := HX1l.out; rw [HX1.out, length_vals] at this; exact this
  have l2 : (R.drop ge).length = T := by have := HX2l.out; rw [HX2.out, length_vals] at this; exact this
  have lq : (splice (splice (List.replicate Sz (0 : Int)) 0 (R.take gs)) E (R.drop ge)).length = Sz := by
    rw [length_splice _ _ _ (by rw [length_splice _ _ _ (by rw [l1, List.length_replicate]; omega), List.length_replicate, l2]; omega), length_splice _ _ _ (by rw [l1, List.length_replicate]; omega), List.length_replicate]
  have hg4 : w4.heap[g]? = some (.cells #[r, .int .i64 gs, .int .i64 ge, .int .i64 bl, bf, af] 42 (0, 0)) := (hB.block g hlg).trans h
  refine ⟨w.heap.size, E, splice (splice (List.replicate Sz 0) 0 (R.take gs)) E (R.drop ge), ?_, ?_, e5.1, by rw [lq]; exact e5.2, by rw [lq]; exact e1, ((hB.mono (Nat.le_of_lt hlg)).setCell (p := ⟨g, 0, none⟩) (Nat.le_refl _) _).setCell (p := ⟨g, 2, none⟩) (Nat.le_refl _) _, Nat.le_refl _⟩
  · unfold Buf
    rw [heap_setCell_same _ g 2 _ 42 _ (heap_setCell_same w4 g 0 _ 42 _ hg4), lq]
    rfl
  · intro j hj
    rw [World.cell?_setCell_other _ _ _ _ (by intro hh; injection hh; omega), World.cell?_setCell_other _ _ _ _ (by intro hh; injection hh; omega), cell_of_row w4 w.heap.size j _ _ _ HG.out, HX1.out, HX2.out, HZ0.out, splice_vals, splice_vals]
    simp [vals, List.getD, hj]

set_option maxRecDepth 20000 in
set_option maxHeartbeats 2000000 in
theorem reserve27b (g ga n gs ge m : Nat) (bl : Int) (bf af : Value) (R : List Int) (w : World) (h : Buf w g (.slice (some ⟨ga, 0, none⟩) n n) gs ge bl bf af) (hR : n = R.length) (h2 : gs ≤ ge) (h3 : ge < n) (h4 : n ≤ 262144) (hm : ge < gs + m) (hm2 : m ≤ 65536)
    (hc : ∀ j, j < n → w.cell? ⟨ga, j, none⟩ = some (.int .i32 (R.getD j 0))) :
    Calls Try.prog 27 #[.pointer (some ⟨g, 0, none⟩), .int .i64 (m : Int)] w fun e w' => e = .returned (.tuple #[]) ∧ Grew w w' g gs m bl bf af := by
  have HBf : Hid (Buf w g (.slice (some ⟨ga, 0, none⟩) n n) gs ge bl bf af) := h
  have HC : Hid (∀ j, j < n → w.cell? ⟨ga, j, none⟩ = some (.int .i32 (R.getD j 0))) := hc
  have k0 := h.c0
  have k1 := h.c1
  have k2 := h.c2
  have hm' : ¬ ((m : Int) ≤ (ge : Int) - (gs : Int)) := by omega
  have i2 : (gs : Int) ≤ (ge : Int) := by omega
  have i3 : (ge : Int) ≤ (n : Int) := by omega
  obtain ⟨N1, hN1⟩ : ∃ N1 : Nat, (n : Int) - ((ge : Int) - (gs : Int)) + (m : Int) = (N1 : Int) := ⟨n - (ge - gs) + m, by omega⟩
  obtain ⟨N8, hN8⟩ : ∃ N8 : Nat, (N1 : Int) / 8 = (N8 : Int) := ⟨N1 / 8, by omega⟩
  have HN : Hid (N1 = n - (ge - gs) + m) := by show _ = _; omega
  obtain ⟨N3, hN3⟩ : ∃ N3 : Nat, (N1 : Int) + (N8 : Int) + 64 = (N3 : Int) := ⟨N1 + N8 + 64, by omega⟩
  obtain ⟨N2, hN2⟩ : ∃ N2 : Nat, 2 * (n : Int) = (N2 : Int) := ⟨2 * n, by omega⟩
  obtain ⟨Sz, hSz, hcs⟩ : ∃ Sz : Nat, (Sz ≤ 10000000 ∧ 2 * n ≤ Sz ∧ N1 + 64 ≤ Sz) ∧ ((N2 < N3 ∧ Sz = N3) ∨ (N3 ≤ N2 ∧ Sz = N2)) := by
    by_cases hh : N2 < N3
    · exact ⟨N3, by omega, .inl ⟨hh, rfl⟩⟩
    · exact ⟨N2, by omega, .inr ⟨by omega, rfl⟩⟩
  have HSz : Hid (Sz ≤ 10000000 ∧ 2 * n ≤ Sz ∧ N1 + 64 ≤ Sz) := hSz
  obtain ⟨T, hT⟩ : ∃ T : Nat, (n : Int) - (ge : Int) = (T : Int) := ⟨n - ge, by omega⟩
  obtain ⟨E, hE⟩ : ∃ E : Nat, (Sz : Int) - (T : Int) = (E : Int) := ⟨Sz - T, by omega⟩
  have hT0 : 0 < T := by omega
  have hES : E < Sz := by omega
  have HET : Hid (E + T = Sz ∧ T = n - ge) := by show _ ∧ _; omega
  have hfin : Hid (gs + m ≤ E ∧ E ≤ Sz) := by show _ ∧ _; have := HN.out; omega
  obtain ⟨i0, hi, hz0, hz1, hz2⟩ := info_parts Try.info21
  have hlg := lt_of_some h
  obtain ⟨X1, hX1⟩ : ∃ X1, X1 = vals (R.take gs) := ⟨_, rfl⟩
  obtain ⟨X2, hX2⟩ : ∃ X2, X2 = vals (R.drop ge) := ⟨_, rfl⟩
  have HX1l : Hid (X1.length = gs) := by show _ = _; rw [hX1, length_vals, List.length_take]; omega
  have HX2l : Hid (X2.length = T) := by show _ = _; rw [hX2, length_vals, List.length_drop]; omega
  have HX11 : Hid (∀ v ∈ X1, v.oneCell' = true) := by rw [hX1]; exact ints_oneCell _ _
  have HX21 : Hid (∀ v ∈ X2, v.oneCell' = true) := by rw [hX2]; exact ints_oneCell _ _
  have HX1c : Hid (∀ j v, X1[j]? = some v → w.cell? ((⟨ga, 0, none⟩ : Addr).add j) = some v) := by
    intro j v hj
    have hjl : j < gs := by rw [← HX1l.out]; exact (List.getElem?_eq_some_iff.1 hj).1
    rw [add_none, Nat.zero_add, hc j (by omega), ← hj, hX1]
    simp [vals, List.getElem?_take_of_lt hjl, List.getD, show j < R.length by omega]
  have HX2c : Hid (∀ j v, X2[j]? = some v → w.cell? ((⟨ga, ge, none⟩ : Addr).add j) = some v) := by
    intro j v hj
    have hjl : j < T := by rw [← HX2l.out]; exact (List.getElem?_eq_some_iff.1 hj).1
    rw [add_none, hc (ge + j) (by omega), ← hj, hX2]
    simp [vals, List.getElem?_drop, List.getD, show ge + j < R.length by omega]
  have HX1 : Hid (X1 = vals (R.take gs)) := hX1
  have HX2 : Hid (X2 = vals (R.drop ge)) := hX2
  have hnge : ¬ n = ge := by omega
  have hSE : ¬ Sz = E := by omega
  have j1 : (gs : Int) ≤ (n : Int) := by omega
  have j2 : (E : Int) ≤ (Sz : Int) := by omega
  clear h hc hR hX1 hX2 hSz
  have f0 := HBf.out.fr 0
  have f2 := HBf.out.fr 2
  rcases hcs with ⟨hmx, hse⟩ | ⟨hmx, hse⟩
  all_goals
    subst hse
    go_enter Try.func27, Try.ntmps27
    go_wp2
    go_quiet (fail)
    go_wp2_with (first
      | (go_at_call 29; refine (len29 g (some ⟨ga, 0, none⟩) n n gs ge bl bf af _ (HBf.out.drewN _) (by omega) (by omega) (by omega) (by omega)).mono ?_; rintro e w' ⟨rfl, q, rfl⟩)
      | (at_make; refine wpList_make_full _ rfl (.tmp 35) (.tmp 35) 22 rfl w.heap.size 21 i0 (.int .i32 0) 1 Try.underlying22 hi hz0 hz1 .i64 .i64 (Sz : Int) (Sz : Int) Sz rfl rfl rfl rfl (by rw [hz2]; have := HSz.out; omega) (by unfold maxLen; have := HSz.out; omega) (Nat.le_refl _) ?_; intro w1 hown1 hgrow1))
    have hb1 : Below w.heap.size w w1 := (below_drewN' (Below.refl _ _) _).grown hgrow1 (Nat.le_refl _) (by simp)
    have HG1 : Hid (w1.heap[w.heap.size]? = some (.cells (vals (List.replicate Sz 0)).toArray 21 (0, 0))) := by
      have h := own_block_is hown1
      rw [made_vals] at h
      exact h
    obtain ⟨Z0, hZ0⟩ : ∃ Z0, Z0 = vals (List.replicate Sz 0) := ⟨_, rfl⟩
    have HZ0 : Hid (Z0 = vals (List.replicate Sz 0)) := hZ0
    rw [← hZ0] at HG1
    have HZl : Hid (Z0.length = Sz) := by show _ = _; rw [hZ0, length_vals, List.length_replicate]
    have m0 := (hb1.cell (p := ⟨g, 0, none⟩) hlg).trans k0
    have m1 := (hb1.cell (p := ⟨g, 1, none⟩) hlg).trans k1
    clear hZ0 hown1 hgrow1
    go_region_held3 (fun w' => w'.cell? ⟨g, 0, none⟩ = some (.slice (some ⟨ga, 0, none⟩) n n) ∧ w'.cell? ⟨g, 1, none⟩ = some (.int .i64 (gs : Int)))
      (first
        | go_keep
        | exact ⟨(hB2.cell (p := ⟨g, 0, none⟩) hlg).trans k0, (hB2.cell (p := ⟨g, 1, none⟩) hlg).trans k1⟩)
      ((refine step_copy_splice (by rfl) (.tmp 37) (.tmp 46) 22 22 (by rfl) 21 Try.underlying22 Try.size21 (some ⟨w.heap.size, 0, none⟩) (some ⟨ga, 0, none⟩) Sz Sz gs n (by rfl) (by rfl) w.heap.size 0 Z0 21 HG1.out X1 (by have := HX1l.out; have := HSz.out; simp only [Nat.min_def]; split <;> omega) (fun _ => ⟨rfl, _, rfl, fun j v hj => (hb1.drew.cell (block_lt_of_cell (HX1c.out j v hj))).trans (HX1c.out j v hj)⟩) (by have := HX1l.out; have := HZl.out; have := HSz.out; omega) HX11.out w.heap.size w hb1.drew (Nat.le_refl _) ?_; intro w2 HG2 hB2))
    clear m0 m1
    have m0 := (hB2.cell (p := ⟨g, 0, none⟩) hlg).trans k0
    have m2 := (hB2.cell (p := ⟨g, 2, none⟩) hlg).trans k2
    go_wp2
    go_quiet (fail)
    have hB3 : Below w.heap.size w (w2.drewN nq) := below_drewN' hB2 nq
    have HG3 : Hid ((w2.drewN nq).heap[w.heap.size]? = some (.cells (splice Z0 0 X1).toArray 21 (0, 0))) := HG2
    clear m0 m2 HG2 hB2 HG1 hb1
    generalize w2.drewN nq = w3 at hB3 HG3 ⊢
    have m0 := (hB3.cell (p := ⟨g, 0, none⟩) hlg).trans k0
    have m2 := (hB3.cell (p := ⟨g, 2, none⟩) hlg).trans k2
    have HWE : Hid (IntKind.i64.wrap (E : Int) = (E : Int)) := by show _ = _; rw [IntKind.wrap_i64]; have := HSz.out; omega
    have t1 := HWE.out
    go_wp2
    go_region_held3 (fun w' => w'.cell? ⟨g, 0, none⟩ = some (.slice (some ⟨ga, 0, none⟩) n n) ∧ w'.cell? ⟨g, 2, none⟩ = some (.int .i64 (ge : Int)))
      (first
        | go_keep
        | exact ⟨(hB4.cell (p := ⟨g, 0, none⟩) hlg).trans k0, (hB4.cell (p := ⟨g, 2, none⟩) hlg).trans k2⟩)
      ((refine step_copy_splice (by rfl) (.tmp 62) (.tmp 71) 22 22 (by rfl) 21 Try.underlying22 Try.size21 (some ⟨w.heap.size, E, none⟩) (some ⟨ga, ge, none⟩) (Sz - E) (Sz - E) (n - ge) (n - ge) (by rfl) (by rfl) w.heap.size E (splice Z0 0 X1) 21 HG3.out X2 (by have := HX2l.out; have := HET.out; simp only [Nat.min_def]; split <;> omega) (fun _ => ⟨rfl, _, rfl, fun j v hj => (hB3.drew.cell (block_lt_of_cell (HX2c.out j v hj))).trans (HX2c.out j v hj)⟩) (by have := HX2l.out; have := HX1l.out; have := HZl.out; have := HSz.out; have := HET.out; rw [length_splice _ _ _ (by omega)]; omega) HX21.out w.heap.size w hB3.drew (Nat.le_refl _) ?_; intro w4 HG4 hB4))
    clear m0 m2
    have m0 := (hB4.cell (p := ⟨g, 0, none⟩) hlg).trans k0
    have m2 := (hB4.cell (p := ⟨g, 2, none⟩) hlg).trans k2
    have n0 := (hB4.frozen (p := ⟨g, 0, none⟩) hlg).trans f0
    have n2 := (hB4.frozen (p := ⟨g, 2, none⟩) hlg).trans f2
    go_wp2
    go_end0
    exact ⟨rfl, grew_of HBf.out HG4 hB4 HX1 HX2 HZ0 HX1l HX2l HET HSz hfin⟩
end Go.Proofs.Qxb6602056a
