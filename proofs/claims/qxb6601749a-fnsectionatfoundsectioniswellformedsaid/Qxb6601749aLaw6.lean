import Derived.Test.Qxb6601749aCopy
namespace Go.Proofs.Qxb6601749a
open Go.RowKit
set_option linter.unusedSimpArgs false

set_option maxRecDepth 20000 in
set_option maxHeartbeats 1000000 in
theorem law6 (b off len cap : Nat) (D : List Int) (pid : Int) (w : World)
    (hD : ∀ z ∈ D, 0 ≤ z ∧ z ≤ 255) (hc : ∀ i, i < len → w.cell? ⟨b, off + i, none⟩ = some (.int .u8 (D.getD i 0))) (hl : len ≤ D.length) (h1 : 188 ≤ len) (h2 : len ≤ 1048576) :
    Calls Try.prog 6 #[.slice (some ⟨b, off, none⟩) len cap, .int .i64 pid] w fun e w' => e = .returned (.bool true) ∧ Below w.heap.size w w' := by
  have hlt : b < w.heap.size := cell_lt (hc 0 (by omega))
  have HC : Hid (∀ i, i < len → w.cell? ⟨b, off + i, none⟩ = some (.int .u8 (D.getD i 0))) := hc
  have HDD : Hid (∀ z ∈ D, 0 ≤ z ∧ z ≤ 255) := hD
  obtain ⟨X, hX⟩ : ∃ X, X = vals (D.take len) := ⟨_, rfl⟩
  have HX : Hid (X = vals (D.take len)) := hX
  have hXl : X.length = len := by rw [hX, length_vals, List.length_take]; omega
  have hX1 : ∀ v ∈ X, v.oneCell' = true := by rw [hX]; exact vals_one _
  have hXc : ∀ j v, X[j]? = some v → w.cell? ((⟨b, off, none⟩ : Addr).add j) = some v := by
    intro j v hj
    rw [hX] at hj
    simp only [vals, List.getElem?_map] at hj
    by_cases hjl : j < len
    · rw [add_none, hc j hjl]
      rw [List.getElem?_take_of_lt hjl, List.getElem?_eq_getElem (by omega)] at hj
      simp only [Option.map_some] at hj
      rw [← hj]
      simp [List.getD, show j < D.length by omega]
    · rw [List.getElem?_eq_none (by simp; omega)] at hj
      simp at hj
  have HXl : Hid (X.length = len) := hXl
  have HX1 : Hid (∀ v ∈ X, v.oneCell' = true) := hX1
  have HXc : Hid (∀ j v, X[j]? = some v → w.cell? ((⟨b, off, none⟩ : Addr).add j) = some v) := hXc
  clear hc hD hX hXl hX1 hXc
  obtain ⟨i0, hi, hz0, hz1, hz2⟩ := info_parts Try.info5
  have hnil := fun (w : World) (a : Option Addr) (n c : Nat) => Lib.run_eql_slice_nil (P := Try.prog) w 22 5 a n c 0 0 Try.underlying22
  go_enter Try.func6, Try.ntmps6
  go_wp2_with (first
    | (go_at_call 21; go_in)
    | (at_make; refine wpList_make_full _ rfl (.tmp 31) (.tmp 31) 22 rfl w.heap.size 5 i0 (.int .u8 0) 1 Try.underlying22 hi hz0 hz1 .i64 .i64 (len : Int) (len : Int) len rfl rfl rfl rfl (by rw [hz2]; omega) (by unfold maxLen; omega) (Nat.le_refl _) ?_; intro w1 hown1 hgrow1; go_must (obtain ⟨Zs, hZ0, hZl⟩ := own_block hown1; have hZ : Hid (w1.heap[w.heap.size]? = some (.cells Zs.toArray 5 (0, 0))) := hZ0; clear hZ0; have hb1 : Below w.heap.size w w1 := (Below.refl _ _).grown hgrow1 (Nat.le_refl _) (by simp)))
    | (have _t := hZ; refine wpList_copy_splice rfl (.tmp 33) (.tmp 34) 22 22 rfl 5 Try.underlying22 Try.size5 (some ⟨w.heap.size, 0, none⟩) (some ⟨b, off, none⟩) len len len cap rfl rfl w.heap.size 0 Zs 5 hZ.out X (by rw [HXl.out]; simp) (fun _ => ⟨rfl, _, rfl, fun j v hj => (hb1.cell (by rw [add_none]; exact hlt)).trans (HXc.out j v hj)⟩) (by rw [HXl.out]; omega) HX1.out w.heap.size w hb1 (Nat.le_refl _) ?_; intro w2 HG2 hB2; clear _t hZ hZl hb1 hown1 hgrow1)
    )
  have HAt : Hid (At w2 w.heap.size 0 len (fun i => D.getD i 0)) := At_copied HG2 HX hl HDD.out
  have HBB : Hid (∀ i, 0 ≤ D.getD i 0 ∧ D.getD i 0 ≤ 255) := by
    intro i
    rw [List.getD_eq_getElem?_getD]
    by_cases h : i < D.length
    · rw [List.getElem?_eq_getElem h]; exact HDD.out _ (List.getElem_mem h)
    · rw [List.getElem?_eq_none (by omega)]; simp
  clear HX HXl HX1 HXc HC HG2
  obtain ⟨B, hBe⟩ : ∃ B : Nat → Int, B = fun i => D.getD i 0 := ⟨_, rfl⟩
  rw [← hBe] at HAt
  have HB : Hid (∀ i, 0 ≤ B i ∧ B i ≤ 255) := by rw [hBe]; exact HBB
  clear hBe HBB HDD hl
  have hw2 : w.heap.size < w2.heap.size := HAt.out.lt (by omega)
  refine (sec19 w.heap.size 0 len len B pid w2 HAt.out HB.out h1 h2 (Nat.le_refl _) (by omega)).mono ?_
  rintro e w3 ⟨hb3, hr⟩
  have hbe : Below w.heap.size w w3 := hB2.trans (hb3.mono (by omega))
  have HAt3 : Hid (At w3 w.heap.size 0 len B) := HAt.out.below hb3 hw2
  clear HAt hB2 hb3 hw2 hi hz0 hz1 hz2
  rcases hr with ⟨a, x, d0, m, g1, c1, g2, c2, hd, hf, he, a1, a2, k1, k2, k3, k4⟩ | ⟨hno, rfl⟩
  · have hr := secNI_range HB.out d0
    have hN := secN_eq HB.out d0
    have hfit := hd.fit
    have hdd := hd.hd
    have p1 := a1 1 (by have := hf.least; omega)
    have p2 := a1 2 (by have := hf.least; omega)
    have p5 := a1 5 (by have := hf.least; omega)
    simp only [dat_head B pid d0 m 1 (by omega), dat_head B pid d0 m 2 (by omega), Nat.zero_add] at p1 p2 p5
    have e5 := hf.cur
    obtain ⟨Y1, hY1⟩ : ∃ Y, Y = B (d0 + 1) := ⟨_, rfl⟩
    obtain ⟨Y2, hY2⟩ : ∃ Y, Y = B (d0 + 2) := ⟨_, rfl⟩
    obtain ⟨Z, hZ⟩ : ∃ Y, Y = (dat B pid d0 m).getD 5 0 := ⟨_, rfl⟩
    unfold secNI at hr hN
    rw [← hY1] at p1 hr hN
    rw [← hY2] at p2 hr hN
    rw [← hZ] at p5 e5
    obtain ⟨M, hM⟩ : ∃ M : Nat, bits .or .i64 (Y1 % 16 * 256) Y2 = (M : Int) := ⟨(bits .or .i64 (Y1 % 16 * 256) Y2).toNat, by omega⟩
    rw [hM] at hr hN
    have hS : secN B d0 = 3 + M := by omega
    have h12 := hf.least
    rw [hS] at he k1 h12
    have hPl : (pks B pid m).length = 188 * (us B pid m).length := by rw [pks_flat, flat_len]
    obtain ⟨U, hU⟩ : ∃ U, U = us B pid m := ⟨_, rfl⟩
    rw [hPl, ← hU] at he k3 a2
    have u1 := us_len B pid m
    rw [← hU] at u1
    have hroom := hf.room
    have A2 : At w3 g2 0 (188 * U.length) (fun i => (flat B U).getD i 0) := by rw [hU, ← pks_flat, ← hU]; exact a2
    have UF : Hid (∀ i, 1 ≤ i → i < U.length → 1 ≤ U.getD i 0 ∧ 188 * (U.getD i 0 + 1) ≤ len ∧ (∃ a, pay (fun j => B (188 * U.getD i 0 + j)) pid = some a) ∧ stt (fun j => B (188 * U.getD i 0 + j)) = false) := by
      rw [hU]; exact fun i h1 h2 => us_facts hf h1 h2
    have UL : Hid (∀ i j, i < j → j < U.length → U.getD i 0 < U.getD j 0) := by rw [hU]; exact fun i j => us_lt B pid m i j
    have UH : Hid (U.getD 0 0 = 0) := by rw [hU]; exact us_head B pid m
    have e1 : (bits .and .u8 Z 1 != 1) = false := by
      rw [u8_and Z 1 p5.2.1 (by omega) (by omega) (by omega)] at e5 ⊢
      rw [show (1 : Int).toNat = 1 from rfl, Nat.and_one_is_mod] at e5 ⊢
      simp at e5 ⊢
      omega
    obtain ⟨Mx, hMx⟩ : ∃ Mx : Nat, Mx = len / 188 := ⟨_, rfl⟩
    have hMi : (len : Int) / 188 = (Mx : Int) := by omega
    have hUm : U.length ≤ Mx := by omega
    have hMl : 188 * Mx ≤ len := by omega
    have HA2 : Hid (At w3 g2 0 (188 * U.length) (fun i => (flat B U).getD i 0)) := A2
    have HD : Hid (Hd B pid a x d0) := hd
    have q1 := p1.1
    have q2 := p2.1
    have q5 := p5.1
    have y1 := p1.2
    have y2 := p2.2
    have y5 := p5.2
    have i1 : (1 : Int) < ((3 + M : Nat) : Int) := by omega
    have i2 : (2 : Int) < ((3 + M : Nat) : Int) := by omega
    have i5 : (5 : Int) < ((3 + M : Nat) : Int) := by omega
    have j1 : (188 : Int) ≤ ((188 * U.length : Nat) : Int) := by omega
    have j2 : (188 : Int) ≤ (len : Int) := by omega
    have hM2 : M ≤ 4095 := by omega
    have j3 : (188 : Int) ≤ (c2 : Int) := by omega
    unfold maxLen at k2 k4
    clear hr hN hfit hdd p1 p2 p5 e5 hY1 hY2 hZ hS hPl hU hroom A2 a1 a2 hf hd hMx
    subst he
    go_wp2
    go_quiet (fail)
    have hbe4 : Below w.heap.size w (w3.drewN nq) := below_drewN' hbe nq
    have HA4 : Hid (At (w3.drewN nq) g2 0 (188 * U.length) (fun i => (flat B U).getD i 0)) := HA2.out.drewN nq
    have HB4 : Hid (At (w3.drewN nq) w.heap.size 0 len B) := HAt3.out.drewN nq
    have q5' : (w3.drewN nq).cell? ⟨g1, 5, none⟩ = some (.int .u8 Z) := q5
    clear q1 q2 q5 hbe HA2 HAt3
    generalize w3.drewN nq = w4 at hbe4 HA4 HB4 q5' ⊢
    have hsame : Hid (sameB 188 (fun i => (flat B U).getD i 0) B = true) := by
      show _ = true
      rw [sameB_iff]
      intro i hi
      have := flat_get B U 0 i (by omega) hi
      rw [UH.out] at this
      simpa using this
    go_wp2
    go_quiet ((go_at_call 17; go_must (refine Calls.quiet_of (same17v g2 0 c2 w.heap.size 0 len 188 (fun i => (flat B U).getD i 0) B true _ ((HA4.out.drewN _).le (by omega)) ((HB4.out.drewN _).le (by omega)) (by omega) hsame.out))))
    go_wp2_with (first
      | (go_at_call 14; refine (pay14s w.heap.size 0 len B pid _ ((HB4.out.drewN _).le (by omega)) (by omega) (by omega) a true HD.out.hp HD.out.hs).mono ?_; rintro e w' ⟨rfl, n, rfl⟩))
    clear q5' y1 y2 y5 i1 i2 i5 hM e1 h12 hM2 k1 k2
    go_loopw [12, 13] (fun k c wr => ∃ i kk q A : Nat, 1 ≤ i ∧ i ≤ U.length ∧ 1 ≤ kk ∧ kk ≤ Mx ∧ k = .int .i64 kk ∧ c = .int .i64 A ∧ wr = w4.drewN q ∧ Hid (A = 188 * i) ∧ Hid (i < U.length → kk ≤ U.getD i 0)) (fun _ c _ => 188 * U.length - (intOf c).toNat)
    case atStart => exact ⟨1, 1, _, 188, by omega, by omega, by omega, by omega, rfl, rfl, rfl, rfl, fun h => (UF.out 1 (by omega) h).1⟩
    case round =>
      obtain ⟨i, kk, q, A, r1, r2, r3, r4, rfl, rfl, rfl, HAi, HK⟩ := hrel
      by_cases hlt : A < 188 * U.length
      · have hiU : i < U.length := by have := HAi.out; omega
        obtain ⟨f1, f2, ⟨a', f3⟩, f4⟩ := UF.out i r1 hiU
        obtain ⟨u, hu⟩ : ∃ u, u = U.getD i 0 := ⟨_, rfl⟩
        rw [← hu] at f1 f2 f3 f4
        have HKu : Hid (kk ≤ u) := by rw [hu]; exact HK.out hiU
        have HU : Hid (u = U.getD i 0) := hu
        have HF3 : Hid (pay (fun j => B (188 * u + j)) pid = some a') := f3
        have HF4 : Hid (stt (fun j => B (188 * u + j)) = false) := f4
        have huM : u < Mx := by omega
        have hA1 : (A : Int) + 188 ≤ (c2 : Int) := by have := HAi.out; omega
        have hA2 : A + 188 ≤ 188 * U.length := by have := HAi.out; omega
        have HCk : Hid (∀ q, At (w4.drewN q) g2 A 188 (fun j => B (188 * u + j))) := by
          intro q j hj
          have h := (HA4.out.drewN q) (A + j) (by have := HAi.out; omega)
          rw [Nat.zero_add] at h
          have e : (flat B U).getD (A + j) 0 = B (188 * u + j) := by rw [HAi.out, hu]; exact flat_get B U i j hiU hj
          simp only [e] at h
          exact h
        clear hu f3 f4
        go_wp2_with (first
          | (go_at_call 14; refine (pay14s g2 A (c2 - A) (fun j => B (188 * u + j)) pid _ (HCk.out _) (by omega) (by omega) a' false HF3.out HF4.out).mono ?_; rintro e w' ⟨rfl, n, rfl⟩))
        go_loopw [12, 17] (fun k f wi => ∃ kk q : Nat, 1 ≤ kk ∧ kk ≤ Mx ∧ k = .int .i64 kk ∧ wi = w4.drewN q ∧ ((f = .bool false ∧ kk ≤ u) ∨ (f = .bool true ∧ kk ≤ u + 1))) (fun k _ _ => Mx - (intOf k).toNat)
        case atStart => exact ⟨kk, _, r3, r4, rfl, rfl, Or.inl ⟨rfl, HKu.out⟩⟩
        case round =>
          clear HKu r3 r4 HK
          obtain ⟨kk, q, r3, r4, rfl, rfl, ⟨rfl, hku⟩ | ⟨rfl, hku⟩⟩ := hrel
          · have z1 : (kk : Int) < (Mx : Int) := by omega
            have HBk : Hid (∀ q, At (w4.drewN q) w.heap.size (kk * 188) 188 (fun j => B (kk * 188 + j))) := by
              intro q j hj
              have h := (HB4.out.drewN q) (kk * 188 + j) (by omega)
              rw [Nat.zero_add] at h
              exact h
            have HQ : Hid (sameB 188 (fun j => B (kk * 188 + j)) (fun j => B (188 * u + j)) = false → kk ≠ u) := by
              intro h1 h2
              subst h2
              rw [sameB_iff.2 (fun _ _ => by rw [Nat.mul_comm])] at h1
              cases h1
            rcases hsm : sameB 188 (fun j => B (kk * 188 + j)) (fun j => B (188 * u + j)) with _ | _
            · have HSM : Hid (sameB 188 (fun j => B (kk * 188 + j)) (fun j => B (188 * u + j)) = false) := hsm
              clear hsm
              go_wp2_with (first
                | (go_at_call 17; refine (same17w w.heap.size (kk * 188) (len - kk * 188) g2 A (c2 - A) 188 _ _ (fun j => B (kk * 188 + j)) (fun j => B (188 * u + j)) false _ (HBk.out _) (HCk.out _) (by omega) HSM.out (by omega) rfl).mono ?_; rintro e w' ⟨rfl, n, rfl⟩))
              go_roundw
              case rel => exact ⟨kk + 1, _, by omega, by omega, by go_num, rfl, Or.inl ⟨rfl, by have := HQ.out HSM.out; omega⟩⟩
              case measure => simp [intOf]; omega
            · have HSM : Hid (sameB 188 (fun j => B (kk * 188 + j)) (fun j => B (188 * u + j)) = true) := hsm
              clear hsm
              go_wp2_with (first
                | (go_at_call 17; refine (same17w w.heap.size (kk * 188) (len - kk * 188) g2 A (c2 - A) 188 _ _ (fun j => B (kk * 188 + j)) (fun j => B (188 * u + j)) true _ (HBk.out _) (HCk.out _) (by omega) HSM.out (by omega) rfl).mono ?_; rintro e w' ⟨rfl, n, rfl⟩))
              go_roundw
              case rel => exact ⟨kk + 1, _, by omega, by omega, by go_num, rfl, Or.inr ⟨rfl, by omega⟩⟩
              case measure => simp [intOf]; omega
          · go_wp2
            all_goals
              go_roundw
              case rel => exact ⟨i + 1, kk, q, A + 188, by omega, by omega, r3, r4, rfl, by go_num, rfl, (by have := HAi.out; show _ = _; omega), fun h => by have := UL.out i (i + 1) (by omega) h; have := HU.out; omega⟩
              case measure => simp [intOf]; omega
      · go_wp2
        go_ret
        exact ⟨rfl, below_drewN' hbe4 _⟩
  · go_wp2
    go_ret
    exact ⟨rfl, hbe⟩
end Go.Proofs.Qxb6601749a
