import Derived.Test.Qxb6601961aBase
namespace Go.Proofs.Qxb6601961a
open Go.RowKit

theorem getD_app_left {A B : List Int} {j : Nat} (h : j < A.length) : (A ++ B).getD j 0 = A.getD j 0 := by
  rw [List.getD_eq_getElem?_getD, List.getElem?_append_left h, List.getD_eq_getElem?_getD]
theorem getD_app_right {A B : List Int} {j : Nat} : (A ++ B).getD (A.length + j) 0 = B.getD j 0 := by
  rw [List.getD_eq_getElem?_getD, List.getElem?_append_right (by omega), List.getD_eq_getElem?_getD, Nat.add_sub_cancel_left]

set_option maxRecDepth 20000 in
set_option maxHeartbeats 1000000 in
theorem cat13 (p1 p2 : Option Addr) (n1 c1 n2 c2 : Nat) (A B : List Int) (w : World) (hA : n1 = A.length) (hB : n2 = B.length) (hn : n1 + n2 ≤ 1048576)
    (f1 : ∀ k, k < n1 → ∃ g, p1 = some ⟨g, 0, none⟩ ∧ w.cell? ⟨g, k, none⟩ = some (.int .u8 (A.getD k 0))) (f2 : ∀ k, k < n2 → ∃ g, p2 = some ⟨g, 0, none⟩ ∧ w.cell? ⟨g, k, none⟩ = some (.int .u8 (B.getD k 0))) :
    Calls Try.prog 13 #[.slice p1 n1 c1, .slice p2 n2 c2] w fun e w' => ∃ v, e = .returned v ∧ Nw w' w.heap.size v (A ++ B) ∧ Below w.heap.size w w' := by
  have HA : Hid (n1 = A.length) := hA
  have HB : Hid (n2 = B.length) := hB
  have F1 : Hid (∀ k, k < n1 → ∃ g, p1 = some ⟨g, 0, none⟩ ∧ w.cell? ⟨g, k, none⟩ = some (.int .u8 (A.getD k 0))) := f1
  have F2 : Hid (∀ k, k < n2 → ∃ g, p2 = some ⟨g, 0, none⟩ ∧ w.cell? ⟨g, k, none⟩ = some (.int .u8 (B.getD k 0))) := f2
  clear hA hB f1 f2
  obtain ⟨i0, hi, hz0, hz1, hz2⟩ := info_parts Try.info5
  go_enter Try.func13, Try.ntmps13
  go_wp2_with (first
    | (at_make; refine wpList_make_full _ rfl (.tmp 12) (.tmp 12) 23 rfl w.heap.size 5 i0 (.int .u8 0) 1 Try.underlying23 hi hz0 hz1 .i64 .i64 ((n1 : Int) + (n2 : Int)) ((n1 : Int) + (n2 : Int)) (n1 + n2) rfl rfl (by omega) (by omega) (by rw [hz2]; omega) (by unfold maxLen; omega) (Nat.le_refl _) ?_; intro w1 hown1 hgrow1; have lt1 := World.ownsRow.lt hown1 w.heap.size rfl; have R1 : RowB w1 w.heap.size (n1 + n2) (fun _ => 0) := RowB.of_own hown1; have hb1 : Below w.heap.size w w1 := (Below.refl _ _).grown hgrow1 (Nat.le_refl _) (by simp); clear hown1 hgrow1))
  go_loopw [6] (fun i wr => ∃ (k : Nat) (F : Nat → Int), k ≤ n1 ∧ i = .int .i64 (k : Int) ∧ Hid (RowB wr w.heap.size (n1 + n2) F) ∧ Hid (∀ j, j < k → F j = A.getD j 0) ∧ Below w.heap.size w wr ∧ w.heap.size < wr.heap.size) (fun i _ => n1 - (intOf i).toNat)
  case atStart => exact ⟨0, _, Nat.zero_le _, rfl, R1, fun j hj => absurd hj (by omega), hb1, lt1.2⟩
  case round =>
    clear R1 hb1 lt1
    obtain ⟨k, F, hk, rfl, HR, HF, hbr, hsz⟩ := hrel
    by_cases hlt : k < n1
    · obtain ⟨g, rfl, h1⟩ := F1.out k hlt
      have hbb := cell_lt h1
      have v1 : wr.cell? ⟨g, k, none⟩ = some (.int .u8 (A.getD k 0)) := (hbr.cell (p := ⟨g, k, none⟩) hbb).trans h1
      obtain ⟨z, hz⟩ : ∃ z, z = A.getD k 0 := ⟨_, rfl⟩
      rw [← hz] at v1
      have HZ : Hid (z = A.getD k 0) := hz
      have v2 := (HR.out k (by omega)).1
      have v3 := (HR.out k (by omega)).2
      have z1 : (0 : Int) ≤ (k : Int) := by omega
      have z2 : (k : Int) < (n1 : Int) := by omega
      have z3 : (k : Int) < ((n1 + n2 : Nat) : Int) := by omega
      clear hz h1
      go_wp2
      go_roundw
      case rel =>
        refine ⟨k + 1, fun j => if j = k then z else F j, by omega, by go_num, HR.out.set k z (by omega), fun j hj => ?_, hbr.setCell (Nat.le_refl _) _, by simpa using hsz⟩
        show (if j = k then z else F j) = _
        by_cases e : j = k
        · rw [if_pos e, e, HZ.out]
        · rw [if_neg e]; exact HF.out j (by omega)
      case measure => simp [intOf]; omega
    · obtain rfl : k = n1 := by omega
      obtain ⟨wo, rfl⟩ : ∃ wo : World, wo = wr := ⟨_, rfl⟩
      go_wp2
      go_loopw [7] (fun i wr => ∃ (q : Nat) (F : Nat → Int), q ≤ n2 ∧ i = .int .i64 (q : Int) ∧ Hid (RowB wr w.heap.size (k + n2) F) ∧ Hid (∀ j, j < k + q → F j = (A ++ B).getD j 0) ∧ Below w.heap.size w wr ∧ w.heap.size < wr.heap.size) (fun i _ => n2 - (intOf i).toNat)
      case atStart => exact ⟨0, F, Nat.zero_le _, rfl, HR, fun j hj => (HF.out j (by omega)).trans (getD_app_left (by have := HA.out; omega)).symm, hbr, hsz⟩
      case round =>
        clear HR HF hbr hsz
        obtain ⟨q, F, hq, rfl, HR, HF, hbr, hsz⟩ := hrel
        by_cases hlt2 : q < n2
        · obtain ⟨g, rfl, h1⟩ := F2.out q hlt2
          have hbb := cell_lt h1
          have v1 : wr.cell? ⟨g, q, none⟩ = some (.int .u8 (B.getD q 0)) := (hbr.cell (p := ⟨g, q, none⟩) hbb).trans h1
          obtain ⟨z, hz⟩ : ∃ z, z = B.getD q 0 := ⟨_, rfl⟩
          rw [← hz] at v1
          have HZ : Hid (z = B.getD q 0) := hz
          have v2 := (HR.out (k + q) (by omega)).1
          have v3 := (HR.out (k + q) (by omega)).2
          have z1 : (0 : Int) ≤ (q : Int) := by omega
          have z2 : (q : Int) < (n2 : Int) := by omega
          have z3 : (k : Int) + (q : Int) < ((k + n2 : Nat) : Int) := by omega
          clear hz h1
          go_wp2
          go_roundw
          case rel =>
            refine ⟨q + 1, fun j => if j = k + q then z else F j, by omega, by go_num, HR.out.set (k + q) z (by omega), fun j hj => ?_, hbr.setCell (Nat.le_refl _) _, by simpa using hsz⟩
            show (if j = k + q then z else F j) = _
            by_cases e : j = k + q
            · rw [if_pos e, e, HZ.out, HA.out, getD_app_right]
            · rw [if_neg e]; exact HF.out j (by omega)
          case measure => simp [intOf]; omega
        · obtain rfl : q = n2 := by omega
          go_wp2
          go_ret
          have hl : (A ++ B).length = k + q := by rw [List.length_append, HA.out, HB.out]
          refine ⟨_, rfl, .inr ⟨w.heap.size, ?_, Nat.le_refl _, hsz, ?_⟩, hbr⟩
          · rw [hl]; rfl
          · intro i hi
            rw [hl] at hi
            rw [Nat.zero_add, (HR.out i hi).1, HF.out i hi]
end Go.Proofs.Qxb6601961a
