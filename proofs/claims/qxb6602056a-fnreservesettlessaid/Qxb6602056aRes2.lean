import Derived.Test.Qxb6602056aRes
namespace Go.Proofs.Qxb6602056a
open Go.RowKit
set_option linter.unusedSimpArgs false

set_option maxRecDepth 20000 in
set_option maxHeartbeats 2000000 in
theorem reserve27c (g ga n gs ge m : Nat) (bl : Int) (bf af : Value) (R : List Int) (w : World) (h : Buf w g (.slice (some ⟨ga, 0, none⟩) n n) gs ge bl bf af) (hR : n = R.length) (h2 : gs ≤ ge) (h3 : ge = n) (h4 : n ≤ 262144) (hm : ge < gs + m) (hm2 : m ≤ 65536)
    (hc : ∀ j, j < n → w.cell? ⟨ga, j, none⟩ = some (.int .i32 (R.getD j 0))) :
    Calls Try.prog 27 #[.pointer (some ⟨g, 0, none⟩), .int .i64 (m : Int)] w fun e w' => e = .returned (.tuple #[]) ∧ Grew w w' g gs m bl bf af := by
  have HBf : Hid (Buf w g (.slice (some ⟨ga, 0, none⟩) n n) gs ge bl bf af) := h
  have HC : Hid (∀ j, j < n → w.cell? ⟨ga, j, none⟩ = some (.int .i32 (R.getD j 0))) := hc
  have k0 := h.c0
  have k1 := h.c1
  have k2 := h.c2
  have hnge : (n = ge) = True := eq_true h3.symm
  have h3' : ge ≤ n := by omega
  have H3 : Hid (ge = n) := h3
  have hm' : ¬ ((m : Int) ≤ (ge : Int) - (gs : Int)) := by omega
  have i2 : (gs : Int) ≤ (ge : Int) := by omega
  have i3 : (ge : Int) ≤ (n : Int) := by omega
  obtain ⟨N1, hN1⟩ : ∃ N1 : Nat, (n : Int) - ((ge : Int) - (gs : Int)) + (m : Int) = (N1 : Int) := ⟨n - (ge - gs) + m, by omega⟩
  obtain ⟨N8, hN8⟩ : ∃ N8 : Nat, (N1 : Int) / 8 = (N8 : Int) := ⟨N1 / 8, by omega⟩
  have HN : Hid (N1 = n - (ge - gs) + m) := by show _ = _; omega
  obtain ⟨N3, hN3⟩ : ∃ N3 : Nat, (N1 : Int) + (N8 : Int) + 64 = (N3 : Int) := ⟨N1 + N8 + 64, by omega⟩
  obtain ⟨N2, hN2⟩ : ∃ N2 : Nat, 2 * (n : Int) = (N2 : Int) := ⟨2 * n, by omega⟩
  obtain ⟨Sz, hSz, hcs⟩ : ∃ Sz : Nat, (Sz ≤ 10000000 ∧ 2 * n ≤ Sz ∧ N1 + 64 ≤ Sz) ∧ ((N2 < N3 ∧ Sz = N3) ∨ (N3 ≤ N2 ∧ Sz = N2)) := by
    by_cases hh : N2 < N3
    · exact ⟨N3, by omega, .inl ⟨hh, rfl⟩⟩
    · exact ⟨N2, by omega, .inr ⟨by omega, rfl⟩⟩
  have HSz : Hid (Sz ≤ 10000000 ∧ 2 * n ≤ Sz ∧ N1 + 64 ≤ Sz) := hSz
  have hT : (n : Int) - (ge : Int) = 0 := by omega
  have HET : Hid (Sz + 0 = Sz ∧ 0 = n - ge) := by show _ ∧ _; omega
  have hfin : Hid (gs + m ≤ Sz ∧ Sz ≤ Sz) := by show _ ∧ _; have := HN.out; omega
  obtain ⟨i0, hi, hz0, hz1, hz2⟩ := info_parts Try.info21
  have hlg := lt_of_some h
  obtain ⟨X1, hX1⟩ : ∃ X1, X1 = vals (R.take gs) := ⟨_, rfl⟩
  obtain ⟨X2, hX2⟩ : ∃ X2, X2 = vals (R.drop ge) := ⟨_, rfl⟩
  have HX1l : Hid (X1.length = gs) := by show _ = _; rw [hX1, length_vals, List.length_take]; omega
  have HX2l : Hid (X2.length = 0) := by show _ = _; rw [hX2, length_vals, List.length_drop]; omega
  have HX11 : Hid (∀ v ∈ X1, v.oneCell' = true) := by rw [hX1]; exact ints_oneCell _ _
  have HX21 : Hid (∀ v ∈ X2, v.oneCell' = true) := by rw [hX2]; exact ints_oneCell _ _
  have HX1c : Hid (∀ j v, X1[j]? = some v → w.cell? ((⟨ga, 0, none⟩ : Addr).add j) = some v) := by
    intro j v hj
    have hjl : j < gs := by rw [← HX1l.out]; exact (List.getElem?_eq_some_iff.1 hj).1
    rw [add_none, Nat.zero_add, hc j (by omega), ← hj, hX1]
    simp [vals, List.getElem?_take_of_lt hjl, List.getD, show j < R.length by omega]
  have HX1 : Hid (X1 = vals (R.take gs)) := hX1
  have HX2 : Hid (X2 = vals (R.drop ge)) := hX2
  have j1 : (gs : Int) ≤ (n : Int) := by omega
  clear h hc hR hX1 hX2 hSz h3
  have f0 := HBf.out.fr 0
  have f2 := HBf.out.fr 2
  rcases hcs with ⟨hmx, hse⟩ | ⟨hmx, hse⟩
  all_goals
    subst hse
    go_enter Try.func27, Try.ntmps27
    go_wp2
    go_quiet (fail)
    go_wp2_with (first
      | (go_at_call 29; refine (len29 g (some ⟨ga, 0, none⟩) n n gs ge bl bf af _ (HBf.out.drewN _) (by omega) (by omega) (by omega) (by omega)).mono ?_; rintro e w' ⟨rfl, q, rfl⟩)
      | (at_make; refine wpList_make_full _ rfl (.tmp 35) (.tmp 35) 22 rfl w.heap.size 21 i0 (.int .i32 0) 1 Try.underlying22 hi hz0 hz1 .i64 .i64 (Sz : Int) (Sz : Int) Sz rfl rfl rfl rfl (by rw [hz2]; have := HSz.out; omega) (by unfold maxLen; have := HSz.out; omega) (Nat.le_refl _) ?_; intro w1 hown1 hgrow1))
    have hb1 : Below w.heap.size w w1 := (below_drewN' (Below.refl _ _) _).grown hgrow1 (Nat.le_refl _) (by simp)
    have HG1 : Hid (w1.heap[w.heap.size]? = some (.cells (vals (List.replicate Sz 0)).toArray 21 (0, 0))) := by
      have h := own_block_is hown1
      rw [made_vals] at h
      exact h
    obtain ⟨Z0, hZ0⟩ : ∃ Z0, Z0 = vals (List.replicate Sz 0) := ⟨_, rfl⟩
    have HZ0 : Hid (Z0 = vals (List.replicate Sz 0)) := hZ0
    rw [← hZ0] at HG1
    have HZl : Hid (Z0.length = Sz) := by show _ = _; rw [hZ0, length_vals, List.length_replicate]
    have m0 := (hb1.cell (p := ⟨g, 0, none⟩) hlg).trans k0
    have m1 := (hb1.cell (p := ⟨g, 1, none⟩) hlg).trans k1
    clear hZ0 hown1 hgrow1
    go_region_held3 (fun w' => w'.cell? ⟨g, 0, none⟩ = some (.slice (some ⟨ga, 0, none⟩) n n) ∧ w'.cell? ⟨g, 1, none⟩ = some (.int .i64 (gs : Int)))
      (first
        | go_keep
        | exact ⟨(hB2.cell (p := ⟨g, 0, none⟩) hlg).trans k0, (hB2.cell (p := ⟨g, 1, none⟩) hlg).trans k1⟩)
      ((refine step_copy_splice (by rfl) (.tmp 37) (.tmp 46) 22 22 (by rfl) 21 Try.underlying22 Try.size21 (some ⟨w.heap.size, 0, none⟩) (some ⟨ga, 0, none⟩) Sz Sz gs n (by rfl) (by rfl) w.heap.size 0 Z0 21 HG1.out X1 (by have := HX1l.out; have := HSz.out; simp only [Nat.min_def]; split <;> omega) (fun _ => ⟨rfl, _, rfl, fun j v hj => (hb1.drew.cell (block_lt_of_cell (HX1c.out j v hj))).trans (HX1c.out j v hj)⟩) (by have := HX1l.out; have := HZl.out; have := HSz.out; omega) HX11.out w.heap.size w hb1.drew (Nat.le_refl _) ?_; intro w2 HG2 hB2))
    clear m0 m1
    have m0 := (hB2.cell (p := ⟨g, 0, none⟩) hlg).trans k0
    have m2 := (hB2.cell (p := ⟨g, 2, none⟩) hlg).trans k2
    go_wp2
    go_quiet (fail)
    have hB3 : Below w.heap.size w (w2.drewN nq) := below_drewN' hB2 nq
    have HG3 : Hid ((w2.drewN nq).heap[w.heap.size]? = some (.cells (splice Z0 0 X1).toArray 21 (0, 0))) := HG2
    clear m0 m2 HG2 hB2 HG1 hb1
    generalize w2.drewN nq = w3 at hB3 HG3 ⊢
    have m0 := (hB3.cell (p := ⟨g, 0, none⟩) hlg).trans k0
    have m2 := (hB3.cell (p := ⟨g, 2, none⟩) hlg).trans k2
    have t1 : IntKind.i64.wrap (Sz : Int) = (Sz : Int) := by rw [IntKind.wrap_i64]; have := HSz.out; omega
    go_wp2
    go_region_held3 (fun w' => w'.cell? ⟨g, 0, none⟩ = some (.slice (some ⟨ga, 0, none⟩) n n) ∧ w'.cell? ⟨g, 2, none⟩ = some (.int .i64 (ge : Int)))
      (first
        | go_keep
        | exact ⟨(hB4.cell (p := ⟨g, 0, none⟩) hlg).trans k0, (hB4.cell (p := ⟨g, 2, none⟩) hlg).trans k2⟩)
      ((refine step_copy_splice (by rfl) (.tmp 62) (.tmp 71) 22 22 (by rfl) 21 Try.underlying22 Try.size21 (some ⟨w.heap.size, 0, none⟩) (some ⟨ga, 0, none⟩) 0 0 (n - ge) (n - ge) (by rfl) (by rfl) w.heap.size Sz (splice Z0 0 X1) 21 HG3.out X2 (by have := HX2l.out; have := HET.out; simp only [Nat.min_def]; split <;> omega) (fun h0 => by have := HX2l.out; omega) (by have := HX2l.out; have := HX1l.out; have := HZl.out; have := HSz.out; have := HET.out; rw [length_splice _ _ _ (by omega)]; omega) HX21.out w.heap.size w hB3.drew (Nat.le_refl _) ?_; intro w4 HG4 hB4))
    clear m0 m2
    have m0 := (hB4.cell (p := ⟨g, 0, none⟩) hlg).trans k0
    have m2 := (hB4.cell (p := ⟨g, 2, none⟩) hlg).trans k2
    have n0 := (hB4.frozen (p := ⟨g, 0, none⟩) hlg).trans f0
    have n2 := (hB4.frozen (p := ⟨g, 2, none⟩) hlg).trans f2
    go_wp2
    go_end0
    exact ⟨rfl, grew_of HBf.out HG4 hB4 HX1 HX2 HZ0 HX1l HX2l HET HSz hfin⟩

set_option maxRecDepth 20000 in
set_option maxHeartbeats 2000000 in
theorem reserve27d (g m : Nat) (bl : Int) (bf af : Value) (w : World) (h : Buf w g (.slice none 0 0) 0 0 bl bf af) (hm : 0 < m) (hm2 : m ≤ 65536) :
    Calls Try.prog 27 #[.pointer (some ⟨g, 0, none⟩), .int .i64 (m : Int)] w fun e w' => e = .returned (.tuple #[]) ∧ Grew w w' g 0 m bl bf af := by
  have HBf : Hid (Buf w g (.slice none 0 0) 0 0 bl bf af) := h
  have HBf' : Hid (Buf w g (.slice none 0 0) ((0 : Nat) : Int) ((0 : Nat) : Int) bl bf af) := h
  have k0 := h.c0
  have k1 := h.c1
  have k2 := h.c2
  have hm' : ¬ ((m : Int) ≤ 0) := by omega
  obtain ⟨N8, hN8⟩ : ∃ N8 : Nat, (m : Int) / 8 = (N8 : Int) := ⟨m / 8, by omega⟩
  obtain ⟨Sz, hN3⟩ : ∃ Sz : Nat, (m : Int) + (N8 : Int) + 64 = (Sz : Int) := ⟨m + N8 + 64, by omega⟩
  have HSz : Hid (Sz ≤ 10000000 ∧ 2 * 0 ≤ Sz ∧ m + 64 ≤ Sz) := by show _ ∧ _; omega
  have hS0 : (0 : Int) < (Sz : Int) := by omega
  have HET : Hid (Sz + 0 = Sz ∧ 0 = 0 - 0) := by show _ ∧ _; omega
  have hfin : Hid (0 + m ≤ Sz ∧ Sz ≤ Sz) := by show _ ∧ _; omega
  obtain ⟨i0, hi, hz0, hz1, hz2⟩ := info_parts Try.info21
  have hlg := lt_of_some h
  have f0 := HBf.out.fr 0
  have f2 := HBf.out.fr 2
  have HX0 : Hid (([] : List Value) = vals (([] : List Int).take 0)) := rfl
  have HX0' : Hid (([] : List Value) = vals (([] : List Int).drop 0)) := rfl
  clear h
  go_enter Try.func27, Try.ntmps27
  go_wp2
  go_quiet (fail)
  go_wp2_with (first
    | (go_at_call 29; refine (len29 g none 0 0 0 0 bl bf af _ (HBf.out.drewN _) (by omega) (by omega) (by omega) (by omega)).mono ?_; rintro e w' ⟨rfl, q, rfl⟩)
    | (at_make; refine wpList_make_full _ rfl (.tmp 35) (.tmp 35) 22 rfl w.heap.size 21 i0 (.int .i32 0) 1 Try.underlying22 hi hz0 hz1 .i64 .i64 (Sz : Int) (Sz : Int) Sz rfl rfl rfl rfl (by rw [hz2]; have := HSz.out; omega) (by unfold maxLen; have := HSz.out; omega) (Nat.le_refl _) ?_; intro w1 hown1 hgrow1))
  have hb1 : Below w.heap.size w w1 := (below_drewN' (Below.refl _ _) _).grown hgrow1 (Nat.le_refl _) (by simp)
  have HG1 : Hid (w1.heap[w.heap.size]? = some (.cells (vals (List.replicate Sz 0)).toArray 21 (0, 0))) := by
    have h := own_block_is hown1
    rw [made_vals] at h
    exact h
  obtain ⟨Z0, hZ0⟩ : ∃ Z0, Z0 = vals (List.replicate Sz 0) := ⟨_, rfl⟩
  have HZ0 : Hid (Z0 = vals (List.replicate Sz 0)) := hZ0
  rw [← hZ0] at HG1
  have HZl : Hid (Z0.length = Sz) := by show _ = _; rw [hZ0, length_vals, List.length_replicate]
  have m0 := (hb1.cell (p := ⟨g, 0, none⟩) hlg).trans k0
  have m1 := (hb1.cell (p := ⟨g, 1, none⟩) hlg).trans k1
  clear hZ0 hown1 hgrow1
  go_region_held3 (fun w' => w'.cell? ⟨g, 0, none⟩ = some (.slice none 0 0) ∧ w'.cell? ⟨g, 1, none⟩ = some (.int .i64 0))
    (first
      | go_keep
      | exact ⟨(hB2.cell (p := ⟨g, 0, none⟩) hlg).trans k0, (hB2.cell (p := ⟨g, 1, none⟩) hlg).trans k1⟩)
    ((refine step_copy_splice (by rfl) (.tmp 37) (.tmp 46) 22 22 (by rfl) 21 Try.underlying22 Try.size21 (some ⟨w.heap.size, 0, none⟩) none Sz Sz 0 0 (by rfl) (by rfl) w.heap.size 0 Z0 21 HG1.out [] (by simp) (fun h0 => by simp at h0) (by simp) (by simp) w.heap.size w hb1.drew (Nat.le_refl _) ?_; intro w2 HG2 hB2))
  clear m0 m1
  have m0 := (hB2.cell (p := ⟨g, 0, none⟩) hlg).trans k0
  have m2 := (hB2.cell (p := ⟨g, 2, none⟩) hlg).trans k2
  go_wp2
  go_quiet (fail)
  have hB3 : Below w.heap.size w (w2.drewN nq) := below_drewN' hB2 nq
  have HG3 : Hid ((w2.drewN nq).heap[w.heap.size]? = some (.cells (splice Z0 0 []).toArray 21 (0, 0))) := HG2
  clear m0 m2 HG2 hB2 HG1 hb1
  generalize w2.drewN nq = w3 at hB3 HG3 ⊢
  have m0 := (hB3.cell (p := ⟨g, 0, none⟩) hlg).trans k0
  have m2 := (hB3.cell (p := ⟨g, 2, none⟩) hlg).trans k2
  have t1 : IntKind.i64.wrap (Sz : Int) = (Sz : Int) := by rw [IntKind.wrap_i64]; have := HSz.out; omega
  go_wp2
  go_region_held3 (fun w' => w'.cell? ⟨g, 0, none⟩ = some (.slice none 0 0) ∧ w'.cell? ⟨g, 2, none⟩ = some (.int .i64 0))
    (first
      | go_keep
      | exact ⟨(hB4.cell (p := ⟨g, 0, none⟩) hlg).trans k0, (hB4.cell (p := ⟨g, 2, none⟩) hlg).trans k2⟩)
    ((refine step_copy_splice (by rfl) (.tmp 62) (.tmp 71) 22 22 (by rfl) 21 Try.underlying22 Try.size21 (some ⟨w.heap.size, 0, none⟩) none 0 0 0 0 (by rfl) (by rfl) w.heap.size Sz (splice Z0 0 []) 21 HG3.out [] (by simp) (fun h0 => by simp at h0) (by have := HZl.out; rw [length_splice _ _ _ (by simp)]; simp; omega) (by simp) w.heap.size w hB3.drew (Nat.le_refl _) ?_; intro w4 HG4 hB4))
  clear m0 m2
  have m0 := (hB4.cell (p := ⟨g, 0, none⟩) hlg).trans k0
  have m2 := (hB4.cell (p := ⟨g, 2, none⟩) hlg).trans k2
  have n0 := (hB4.frozen (p := ⟨g, 0, none⟩) hlg).trans f0
  have n2 := (hB4.frozen (p := ⟨g, 2, none⟩) hlg).trans f2
  go_wp2
  go_end0
  exact ⟨rfl, grew_of (n := 0) (T := 0) (N1 := m) HBf'.out HG4 hB4 HX0 HX0' HZ0 rfl rfl (by show _ ∧ _; omega) (by show _ ∧ _ ∧ _; have := HSz.out; omega) (by show _ ∧ _; have := HSz.out; omega)⟩
end Go.Proofs.Qxb6602056a
