import Derived.Test.Qxb6602056aNl
namespace Go.Proofs.Qxb6602056a
open Go.RowKit
set_option linter.unusedSimpArgs false

theorem take_push (R : List Int) (k : Nat) (h : k < R.length) : R.take (k + 1) = R.take k ++ [R.getD k 0] := by
  rw [List.take_add_one, List.getD, List.getElem?_eq_getElem h]; rfl
theorem drop_push (R : List Int) (g k : Nat) (h : g + k < R.length) : (R.drop g).take (k + 1) = (R.drop g).take k ++ [R.getD (g + k) 0] := by
  rw [take_push _ _ (by simp; omega)]
  simp [List.getD]

set_option maxRecDepth 20000 in
set_option maxHeartbeats 1000000 in
theorem text13 (p0 : Option Addr) (n c : Nat) (R : List Int) (gs ge : Nat) (w : World) (i : In .i32 w p0 n c R) (hn : n ≤ 1000000000) (h1 : gs ≤ ge) (h2 : ge ≤ n) :
    Calls Try.prog 13 #[.slice p0 n c, .int .i64 (gs : Int), .int .i64 (ge : Int)] w fun e w' => ∃ v, e = .returned v ∧ Own .i32 21 w' w.heap.size v (R.take gs ++ R.drop ge) ∧ Below w.heap.size w w' := by
  have I : Hid (In .i32 w p0 n c R) := i
  have L : Hid (n = R.length) := i.len
  clear i
  obtain ⟨i0, hi, hz0, hz1, hz2⟩ := info_parts Try.info21
  obtain ⟨N, hN⟩ : ∃ N : Nat, N = n - (ge - gs) := ⟨_, rfl⟩
  have e1 : (n : Int) - ((ge : Int) - (gs : Int)) = (N : Int) := by omega
  have e2 : N ≤ 1000000000 := by omega
  clear hN
  go_enter Try.func13, Try.ntmps13
  go_wp2_with (at_make; (refine wpList_make_own _ rfl (.const (.int .i64 0)) (.tmp 15) 22 rfl w.heap.size 21 i0 (.int .i32 0) 1 Try.underlying22 hi hz0 hz1 .i64 .i64 (N : Int) N rfl rfl rfl (by rw [hz2]; omega) (by unfold maxLen; omega) (Nat.le_refl _) ?_; intro w1 own1 gr1))
  have O1 : Own .i32 21 w1 w.heap.size (.slice (some ⟨w.heap.size, 0, none⟩) ([] : List Int).length N) [] := own1
  have B1 : Below w.heap.size w w1 := (Below.refl _ _).grown gr1 (Nat.le_refl _) (by simp)
  clear own1 gr1
  go_loopw [7, 8] (fun v i wr => ∃ (k c : Nat) (q : Option Addr) (D : List Int), k ≤ gs ∧ v = .slice q D.length c ∧ i = .int .i64 (k : Int) ∧ Hid (D = R.take k) ∧ Hid (Own .i32 21 wr w.heap.size (.slice q D.length c) D) ∧ Hid (Below w.heap.size w wr)) (fun _ i _ => gs - (intOf i).toNat)
  case atStart => exact ⟨0, N, _, [], Nat.zero_le _, rfl, rfl, by show _ = _; simp, O1, B1⟩
  case round =>
    clear O1 B1
    obtain ⟨k, c', q, D, hk, rfl, rfl, HD, HO, HB⟩ := hrel
    have hDl : D.length ≤ 1000000000 := by rw [HD.out, List.length_take]; omega
    by_cases hlt : k < gs
    · obtain ⟨b1, o1, rfl, h1⟩ := (I.out.below HB.out).at (j := k) (by omega)
      obtain ⟨u, hu⟩ : ∃ u, u = R.getD k 0 := ⟨_, rfl⟩
      rw [← hu] at h1
      have HU : Hid (u = R.getD k 0) := hu
      have z1 : (0 : Int) ≤ (k : Int) := by omega
      have z2 : (k : Int) < (gs : Int) := by omega
      have z3 : (k : Int) < (n : Int) := by omega
      clear hu
      go_wp2_with (at_builtin; refine wpList_push rfl (.tmp 22) (.tmp 27) 22 rfl .i32 21 4 Try.underlying22 Try.info21 (by decide) w.heap.size (.slice q D.length c') D u rfl (HO.out.alloc _) _ rfl (cell_new1 _ _ _) hDl (by have := HB.out.size; simp; omega) ?_; intro v' w' ho' hg')
      obtain ⟨q', c2, rfl, _⟩ := ho'.slice
      have HB' : Below w.heap.size w w' := (HB.out.alloc HB.out.size _).grown hg' (by have := HB.out.size; simp; omega) (fun b hb => (HO.out.lt b hb).1)
      go_roundw
      case rel => exact ⟨k + 1, c2, q', D ++ [u], by omega, rfl, by go_num, by show _ = _; rw [HD.out, HU.out, take_push _ _ (by have := L.out; omega)], ho', HB'⟩
      case measure => simp [intOf]; omega
    · obtain rfl : k = gs := by omega
      go_wp2
      go_loopw [7, 9] (fun v i wr => ∃ (m c : Nat) (q : Option Addr) (D : List Int), ge + m ≤ n ∧ v = .slice q D.length c ∧ i = .int .i64 ((ge + m : Nat) : Int) ∧ Hid (D = R.take k ++ (R.drop ge).take m) ∧ Hid (Own .i32 21 wr w.heap.size (.slice q D.length c) D) ∧ Hid (Below w.heap.size w wr)) (fun _ i _ => n - (intOf i).toNat)
      case atStart => exact ⟨0, c', q, D, by omega, rfl, by simp, by show _ = _; rw [HD.out]; simp, HO.out, HB.out⟩
      case round =>
        clear HD HO HB hDl
        obtain ⟨m, c', q, D, hm, rfl, rfl, HD, HO, HB⟩ := hrel
        have hDl : D.length ≤ 1000000000 := by have := L.out; rw [HD.out, List.length_append, List.length_take, List.length_take, List.length_drop]; omega
        by_cases hlt2 : ge + m < n
        · obtain ⟨b1, o1, rfl, h1⟩ := (I.out.below HB.out).at (j := ge + m) (by omega)
          obtain ⟨u, hu⟩ : ∃ u, u = R.getD (ge + m) 0 := ⟨_, rfl⟩
          rw [← hu] at h1
          have HU : Hid (u = R.getD (ge + m) 0) := hu
          obtain ⟨y, hy⟩ : ∃ y, y = ge + m := ⟨_, rfl⟩
          rw [← hy] at h1 ⊢
          have z1 : (0 : Int) ≤ (y : Int) := by omega
          have z2 : (y : Int) < (n : Int) := by omega
          have HY : Hid (y = ge + m) := hy
          clear hu hy
          go_wp2_with (at_builtin; refine wpList_push rfl (.tmp 36) (.tmp 41) 22 rfl .i32 21 4 Try.underlying22 Try.info21 (by decide) w.heap.size (.slice q D.length c') D u rfl (HO.out.alloc _) _ rfl (cell_new1 _ _ _) hDl (by have := HB.out.size; simp; omega) ?_; intro v' w' ho' hg')
          obtain ⟨q', c2, rfl, _⟩ := ho'.slice
          have HB' : Below w.heap.size w w' := (HB.out.alloc HB.out.size _).grown hg' (by have := HB.out.size; simp; omega) (fun b hb => (HO.out.lt b hb).1)
          go_roundw
          case rel => exact ⟨m + 1, c2, q', D ++ [u], by omega, rfl, (by have := HY.out; go_num), by show _ = _; rw [HD.out, HU.out, drop_push _ _ _ (by have := L.out; omega), List.append_assoc], ho', HB'⟩
          case measure => simp [intOf]; omega
        · obtain rfl : n = ge + m := by omega
          go_wp2
          go_ret
          exact ⟨_, rfl, by have e : (R.drop ge).take m = R.drop ge := List.take_of_length_le (by have := L.out; simp; omega); rw [← e, ← HD.out]; exact HO.out, HB.out⟩
end Go.Proofs.Qxb6602056a
