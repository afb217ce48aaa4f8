import Derived.Test.Qxb6601749aModW
namespace Go.Proofs.Qxb6601749a
open Go.RowKit
set_option linter.unusedSimpArgs false

set_option maxRecDepth 20000 in
set_option maxHeartbeats 1000000 in
theorem model20n (bb bo L C : Nat) (B : Nat → Int) (pid : Int) (w : World)
    (hat : At w bb bo L B) (hB : ∀ i, 0 ≤ B i ∧ B i ≤ 255) (hL : 188 ≤ L) (hC : L ≤ C) (hC2 : C ≤ 9223372036854775807)
    (hd : ¬ ∃ a x d0 : Nat, Hd B pid a x d0) :
    Calls Try.prog 20 #[.slice (some ⟨bb, bo, none⟩) L C, .int .i64 pid] w fun e w' => Below w.heap.size w w' ∧ (MTrue w' B pid L e ∨ MFalse B pid L e) := by
  have HA : Hid (At w bb bo L B) := hat
  have HF : Hid (¬ ∃ a x d0 m : Nat, Hd B pid a x d0 ∧ Found B pid L d0 m) := fun ⟨a, x, d0, m, h1, h2⟩ => hd ⟨a, x, d0, h1⟩
  have c2 : (188 : Int) ≤ (L : Int) := by omega
  have c3 : (188 : Int) ≤ (C : Int) := by omega
  have hnil := fun (w : World) (a : Option Addr) (n c : Nat) => Lib.run_eql_slice_nil (P := Try.prog) w 22 5 a n c 0 0 Try.underlying22
  rcases hp : pay B pid with _ | a
  · have HP : Hid (pay B pid = none) := hp
    clear hat hd hB hp
    go_enter Try.func20, Try.ntmps20
    go_wp2_with (first | (go_at_call 14; refine (pay14n bb bo C B pid _ (HA.out.le hL) (by omega) (by omega) HP.out).mono ?_; rintro e w' ⟨rfl, n, rfl⟩))
    go_ret3
    exact ⟨below_drewN' (Below.refl _ _) _, Or.inr ⟨HF.out, rfl⟩⟩
  · obtain ⟨ha, ha2⟩ := pay_range (hB 4).1 hp
    have HP : Hid (pay B pid = some a) := hp
    rcases hs : stt B with _ | _
    · have HS : Hid (stt B = false) := hs
      clear hat hd hB hp hs
      go_enter Try.func20, Try.ntmps20
      go_wp2_with (first | (go_at_call 14; refine (pay14s bb bo C B pid _ (HA.out.le hL) (by omega) (by omega) a false HP.out HS.out).mono ?_; rintro e w' ⟨rfl, n, rfl⟩))
      go_ret3
      exact ⟨below_drewN' (Below.refl _ _) _, Or.inr ⟨HF.out, rfl⟩⟩
    · have HS : Hid (stt B = true) := hs
      have hba := hB a
      obtain ⟨x, hx⟩ : ∃ x : Nat, B a = (x : Int) := ⟨(B a).toNat, by omega⟩
      have hx2 : x ≤ 255 := by omega
      have hfit : 188 - a < 1 + x + 3 := by
        rcases Nat.lt_or_ge (188 - a) (1 + x + 3) with h | h
        · exact h
        · exact absurd ⟨a, x, _, hp, hs, hx, h, rfl⟩ hd
      have hc0 := (hat a (by omega)).1
      rw [hx] at hc0
      have c4 : ((188 - a : Nat) : Int) < 1 + (x : Int) + 3 := by omega
      have c5 : (0 : Int) < ((188 - a : Nat) : Int) := by omega
      clear hat hd hB hp hs hx hba hfit
      go_enter Try.func20, Try.ntmps20
      go_wp2_with (first | (go_at_call 14; refine (pay14s bb bo C B pid _ (HA.out.le hL) (by omega) (by omega) a true HP.out HS.out).mono ?_; rintro e w' ⟨rfl, n, rfl⟩))
      go_ret3
      exact ⟨below_drewN' (Below.refl _ _) _, Or.inr ⟨HF.out, rfl⟩⟩

theorem model20 (bb bo L C : Nat) (B : Nat → Int) (pid : Int) (w : World)
    (hat : At w bb bo L B) (hB : ∀ i, 0 ≤ B i ∧ B i ≤ 255) (hL : 188 ≤ L) (hL2 : L ≤ 1048576) (hC : L ≤ C) (hC2 : C ≤ 9223372036854775807) :
    Calls Try.prog 20 #[.slice (some ⟨bb, bo, none⟩) L C, .int .i64 pid] w fun e w' => Below w.heap.size w w' ∧ (MTrue w' B pid L e ∨ MFalse B pid L e) := by
  by_cases h : ∃ a x d0 : Nat, Hd B pid a x d0
  · obtain ⟨a, x, d0, h⟩ := h
    exact model20y bb bo L C a x d0 B pid w hat hB hL hL2 hC hC2 h
  · exact model20n bb bo L C B pid w hat hB hL hC hC2 h

set_option maxRecDepth 20000 in
set_option maxHeartbeats 1000000 in
theorem law5 (b off len cap : Nat) (D : List Int) (pid : Int) (w : World)
    (hD : ∀ z ∈ D, 0 ≤ z ∧ z ≤ 255) (hc : ∀ i, i < len → w.cell? ⟨b, off + i, none⟩ = some (.int .u8 (D.getD i 0))) (hl : len ≤ D.length) (h1 : 188 ≤ len) (h2 : len ≤ 1048576) :
    Calls Try.prog 5 #[.slice (some ⟨b, off, none⟩) len cap, .int .i64 pid] w fun e w' => e = .returned (.bool true) ∧ Below w.heap.size w w' := by
  have hlt : b < w.heap.size := cell_lt (hc 0 (by omega))
  have HC : Hid (∀ i, i < len → w.cell? ⟨b, off + i, none⟩ = some (.int .u8 (D.getD i 0))) := hc
  have HDD : Hid (∀ z ∈ D, 0 ≤ z ∧ z ≤ 255) := hD
  obtain ⟨X, hX⟩ : ∃ X, X = vals (D.take len) := ⟨_, rfl⟩
  have HX : Hid (X = vals (D.take len)) := hX
  have hXl : X.length = len := by rw [hX, length_vals, List.length_take]; omega
  have hX1 : ∀ v ∈ X, v.oneCell' = true := by rw [hX]; exact vals_one _
  have hXc : ∀ j v, X[j]? = some v → w.cell? ((⟨b, off, none⟩ : Addr).add j) = some v := by
    intro j v hj
    rw [hX] at hj
    simp only [vals, List.getElem?_map] at hj
    by_cases hjl : j < len
    · rw [add_none, hc j hjl]
      rw [List.getElem?_take_of_lt hjl, List.getElem?_eq_getElem (by omega)] at hj
      simp only [Option.map_some] at hj
      rw [← hj]
      simp [List.getD, show j < D.length by omega]
    · rw [List.getElem?_eq_none (by simp; omega)] at hj
      simp at hj
  have HXl : Hid (X.length = len) := hXl
  have HX1 : Hid (∀ v ∈ X, v.oneCell' = true) := hX1
  have HXc : Hid (∀ j v, X[j]? = some v → w.cell? ((⟨b, off, none⟩ : Addr).add j) = some v) := hXc
  clear hc hD hX hXl hX1 hXc
  obtain ⟨i0, hi, hz0, hz1, hz2⟩ := info_parts Try.info5
  have hnil := fun (w : World) (a : Option Addr) (n c : Nat) => Lib.run_eql_slice_nil (P := Try.prog) w 22 5 a n c 0 0 Try.underlying22
  go_enter Try.func5, Try.ntmps5
  go_wp2_with (first
    | (go_at_call 18; go_in)
    | (at_make; refine wpList_make_full _ rfl (.tmp 25) (.tmp 25) 22 rfl w.heap.size 5 i0 (.int .u8 0) 1 Try.underlying22 hi hz0 hz1 .i64 .i64 (len : Int) (len : Int) len rfl rfl rfl rfl (by rw [hz2]; omega) (by unfold maxLen; omega) (Nat.le_refl _) ?_; intro w1 hown1 hgrow1; obtain ⟨Zs, hZ0, hZl⟩ := own_block hown1; have hZ : Hid (w1.heap[w.heap.size]? = some (.cells Zs.toArray 5 (0, 0))) := hZ0; clear hZ0; have hb1 : Below w.heap.size w w1 := (Below.refl _ _).grown hgrow1 (Nat.le_refl _) (by simp))
    | (have _t := hZ; refine wpList_copy_splice rfl (.tmp 27) (.tmp 28) 22 22 rfl 5 Try.underlying22 Try.size5 (some ⟨w.heap.size, 0, none⟩) (some ⟨b, off, none⟩) len len len cap rfl rfl w.heap.size 0 Zs 5 hZ.out X (by rw [HXl.out]; simp) (fun _ => ⟨rfl, _, rfl, fun j v hj => (hb1.cell (by rw [add_none]; exact hlt)).trans (HXc.out j v hj)⟩) (by rw [HXl.out]; omega) HX1.out w.heap.size w hb1 (Nat.le_refl _) ?_; intro w2 HG2 hB2; clear _t hZ hZl hb1 hown1 hgrow1)
    )
  have HAt : Hid (At w2 w.heap.size 0 len (fun i => D.getD i 0)) := At_copied HG2 HX hl HDD.out
  have HBB : Hid (∀ i, 0 ≤ D.getD i 0 ∧ D.getD i 0 ≤ 255) := by
    intro i
    rw [List.getD_eq_getElem?_getD]
    by_cases h : i < D.length
    · rw [List.getElem?_eq_getElem h]; exact HDD.out _ (List.getElem_mem h)
    · rw [List.getElem?_eq_none (by omega)]; simp
  clear HX HXl HX1 HXc HC HG2
  obtain ⟨B, hBe⟩ : ∃ B : Nat → Int, B = fun i => D.getD i 0 := ⟨_, rfl⟩
  rw [← hBe] at HAt
  have HB : Hid (∀ i, 0 ≤ B i ∧ B i ≤ 255) := by rw [hBe]; exact HBB
  clear hBe HBB HDD hl
  have hw2 : w.heap.size < w2.heap.size := HAt.out.lt (by omega)
  refine (sec19 w.heap.size 0 len len B pid w2 HAt.out HB.out h1 h2 (Nat.le_refl _) (by omega)).mono ?_
  rintro e w3 ⟨hb3, hr⟩
  have hbe : Below w.heap.size w w3 := hB2.trans (hb3.mono (by omega))
  have HAt3 : Hid (At w3 w.heap.size 0 len B) := HAt.out.below hb3 hw2
  have hw3 : w.heap.size < w3.heap.size := HAt3.out.lt (by omega)
  clear HAt hB2 hb3 hw2 hi hz0 hz1 hz2
  rcases hr with ⟨a, x, d0, m, g1, c1, g2, c2, hd, hf, rfl, a1, a2, k1, k2, k3, k4⟩ | ⟨hno, rfl⟩
  · have hp1 : 12 ≤ secN B d0 := hf.least
    have hp2 : secN B d0 ≤ 4098 := by have := secNI_range HB.out d0; have := secN_eq HB.out d0; omega
    have hp3 := pks_pos B pid m
    have hp4 := pks_len B pid m
    have hp5 := hf.room
    have HDF : Hid (Hd B pid a x d0 ∧ Found B pid len d0 m) := ⟨hd, hf⟩
    have A1 : Hid (At w3 g1 0 (secN B d0) (fun i => (dat B pid d0 m).getD i 0)) := a1
    have A2 : Hid (At w3 g2 0 (pks B pid m).length (fun i => (pks B pid m).getD i 0)) := a2
    obtain ⟨S, hS⟩ : ∃ S, S = secN B d0 := ⟨_, rfl⟩
    obtain ⟨N, hN⟩ : ∃ N, N = (pks B pid m).length := ⟨_, rfl⟩
    rw [← hS] at hp1 hp2 A1 ⊢
    rw [← hN] at hp3 hp4 A2 ⊢
    have HSS : Hid (S = secN B d0) := hS
    have HNN : Hid (N = (pks B pid m).length) := hN
    have hlt1 : g1 < w3.heap.size := A1.out.lt (by omega)
    have hlt2 : g2 < w3.heap.size := A2.out.lt (by omega)
    clear hd hf a1 a2 hS hN k1 k2 k3 k4
    go_wp2_with fail
    refine (model20 w.heap.size 0 len len B pid w3 HAt3.out HB.out h1 h2 (Nat.le_refl _) (by omega)).mono ?_
    rintro e w4 ⟨hb4, hr⟩
    have hbe4 : Below w.heap.size w w4 := hbe.trans (hb4.mono (by omega))
    rcases hr with ⟨a', x', d0', m', g1', c1', g2', c2', hd', hf', rfl, b1, b2⟩ | ⟨hno, rfl⟩
    · obtain ⟨rfl, rfl, rfl⟩ := HDF.out.1.uniq hd'
      obtain rfl := HDF.out.2.uniq hf'
      rw [← HSS.out, ← HNN.out]
      rw [← HSS.out] at b1
      rw [← HNN.out] at b2
      have C1 : Hid (At w4 g1 0 S (fun i => (dat B pid d0 m).getD i 0)) := A1.out.below hb4 hlt1
      have C2 : Hid (At w4 g2 0 N (fun i => (pks B pid m).getD i 0)) := A2.out.below hb4 hlt2
      have D1 : Hid (At w4 g1' 0 S (fun i => (dat B pid d0 m).getD i 0)) := b1
      have D2 : Hid (At w4 g2' 0 N (fun i => (pks B pid m).getD i 0)) := b2
      clear b1 b2 hd' hf' A1 A2
      go_wp2_with fail
      refine (same17v g1 0 c1 g1' 0 c1' S _ _ true w4 C1.out D1.out (by omega) (sameB_iff.2 fun _ _ => rfl)).mono ?_
      rintro e w5 ⟨rfl, n5, rfl⟩
      go_wp2_with fail
      refine (same17v g2 0 c2 g2' 0 c2' N _ _ true (w4.drewN n5) (C2.out.drewN n5) (D2.out.drewN n5) (by omega) (sameB_iff.2 fun _ _ => rfl)).mono ?_
      rintro e w6 ⟨rfl, n6, rfl⟩
      go_wp2
      go_ret
      exact ⟨rfl, below_drewN' hbe4 _⟩
    · exact absurd ⟨a, x, d0, m, HDF.out⟩ hno
  · have HNO : Hid (¬ ∃ a x d0 m : Nat, Hd B pid a x d0 ∧ Found B pid len d0 m) := hno
    clear hno
    go_wp2_with fail
    refine (model20 w.heap.size 0 len len B pid w3 HAt3.out HB.out h1 h2 (Nat.le_refl _) (by omega)).mono ?_
    rintro e w4 ⟨hb4, hr⟩
    have hbe4 : Below w.heap.size w w4 := hbe.trans (hb4.mono (by omega))
    rcases hr with ⟨a', x', d0', m', g1', c1', g2', c2', hd', hf', rfl, b1, b2⟩ | ⟨hno, rfl⟩
    · exact absurd ⟨a', x', d0', m', hd', hf'⟩ HNO.out
    · clear hno
      go_wp2
      go_ret
      exact ⟨rfl, hbe4⟩
end Go.Proofs.Qxb6601749a
