import Derived.Test.Qxb6602056aOwn
namespace Go.Proofs.Qxb6602056a
open Go.RowKit
set_option linter.unusedSimpArgs false

theorem cell_new1 (W : World) (v : Value) (t : TypeId) : (W.alloc (.cells #[v] t)).cell? ⟨W.heap.size, 0, none⟩ = some v := by
  rw [World.cell?_alloc_at _ _ _ _ (by simp)]; rfl
theorem Own.lt {k : IntKind} {e : TypeId} {w : World} {base : Nat} {v : Value} {D : List Int} (h : Own k e w base v D) : ∀ b, v.ownBlock = some b → base ≤ b ∧ b < w.heap.size := World.ownsRow.lt h

set_option maxRecDepth 20000 in
set_option maxHeartbeats 1000000 in
theorem nb19 (p0 : Option Addr) (n c : Nat) (T : List Int) (p : Nat) (w : World) (i : In .i32 w p0 n c T) (hn : n ≤ 1000000000) (hp : p ≤ n) :
    Calls Try.prog 19 #[.slice p0 n c, .int .i64 (p : Int)] w fun e w' => ∃ v, e = .returned v ∧ Own .i64 3 w' w.heap.size v (NB T p) ∧ Below w.heap.size w w' := by
  have I : Hid (In .i32 w p0 n c T) := i
  have L : Hid (n = T.length) := i.len
  clear i
  go_enter Try.func19, Try.ntmps19
  go_wp2
  go_loopw [5, 6] (fun v i wr => ∃ (k c : Nat) (q : Option Addr) (D : List Int), k ≤ p ∧ v = .slice q D.length c ∧ i = .int .i64 (k : Int) ∧ Hid (D = NB T k) ∧ Hid (Own .i64 3 wr w.heap.size (.slice q D.length c) D) ∧ Hid (Below w.heap.size w wr)) (fun _ i _ => p - (intOf i).toNat)
  case atStart => exact ⟨0, 0, none, [], Nat.zero_le _, rfl, rfl, rfl, Own.nil _ _ _ _, Below.refl _ _⟩
  case round =>
    obtain ⟨k, c', q, D, hk, rfl, rfl, HD, HO, HB⟩ := hrel
    by_cases hlt : k < p
    · obtain ⟨b1, o1, rfl, h1⟩ := (I.out.below HB.out).at (j := k) (by omega)
      obtain ⟨u, hu⟩ : ∃ u, u = T.getD k 0 := ⟨_, rfl⟩
      rw [← hu] at h1
      have HU : Hid (u = T.getD k 0) := hu
      have z1 : (0 : Int) ≤ (k : Int) := by omega
      have z2 : (k : Int) < (p : Int) := by omega
      have z3 : (k : Int) < (n : Int) := by omega
      have hDl : D.length ≤ 1000000000 := by have := NB_le T k; rw [HD.out]; omega
      clear hu
      by_cases hb : u = 10
      · subst hb
        go_wp2_with (at_builtin; refine wpList_push rfl (.tmp 17) (.tmp 19) 23 rfl .i64 3 8 Try.underlying23 Try.info3 (by decide) w.heap.size (.slice q D.length c') D (k : Int) rfl (HO.out.alloc _) _ rfl (cell_new1 _ _ _) hDl (by have := HB.out.size; simp; omega) ?_; intro v' w' ho' hg')
        obtain ⟨q', c2, rfl, _⟩ := ho'.slice
        have HB' : Below w.heap.size w w' := (HB.out.alloc HB.out.size _).grown hg' (by have := HB.out.size; simp; omega) (fun b hb => (HO.out.lt b hb).1)
        go_roundw
        case rel => exact ⟨k + 1, c2, q', D ++ [(k : Int)], by omega, rfl, by go_num, by show _ = _; rw [HD.out]; simp only [NB]; rw [if_pos HU.out.symm], ho', HB'⟩
        case measure => simp [intOf]; omega
      · go_wp2
        go_roundw
        case rel => exact ⟨k + 1, c', q, D, by omega, rfl, by go_num, by show _ = _; rw [HD.out]; simp only [NB]; rw [if_neg (by rw [← HU.out]; exact hb)]; simp, HO.out, HB.out⟩
        case measure => simp [intOf]; omega
    · obtain rfl : k = p := by omega
      go_wp2
      go_ret
      exact ⟨_, rfl, HD.out ▸ HO.out, HB.out⟩

set_option maxRecDepth 20000 in
set_option maxHeartbeats 1000000 in
theorem na20 (p0 : Option Addr) (n c : Nat) (T : List Int) (p : Nat) (w : World) (i : In .i32 w p0 n c T) (hn : n ≤ 1000000000) (hp : p ≤ n) :
    Calls Try.prog 20 #[.slice p0 n c, .int .i64 (p : Int)] w fun e w' => ∃ v, e = .returned v ∧ Own .i64 3 w' w.heap.size v (NU T (n - p)) ∧ Below w.heap.size w w' := by
  have I : Hid (In .i32 w p0 n c T) := i
  have L : Hid (n = T.length) := i.len
  clear i
  go_enter Try.func20, Try.ntmps20
  go_wp2
  go_loopw [5, 6] (fun v i wr => ∃ (k c : Nat) (q : Option Addr) (D : List Int), p + k ≤ n ∧ v = .slice q D.length c ∧ i = .int .i64 ((n : Int) - 1 - (k : Int)) ∧ Hid (D = NU T k) ∧ Hid (Own .i64 3 wr w.heap.size (.slice q D.length c) D) ∧ Hid (Below w.heap.size w wr)) (fun _ i _ => (intOf i + 1).toNat)
  case atStart => exact ⟨0, 0, none, [], by omega, rfl, by go_num, rfl, Own.nil _ _ _ _, Below.refl _ _⟩
  case round =>
    obtain ⟨k, c', q, D, hk, rfl, rfl, HD, HO, HB⟩ := hrel
    by_cases hlt : p + k < n
    · obtain ⟨b1, o1, rfl, h1⟩ := (I.out.below HB.out).at (j := n - 1 - k) (by omega)
      obtain ⟨u, hu⟩ : ∃ u, u = T.getD (n - 1 - k) 0 := ⟨_, rfl⟩
      rw [← hu] at h1
      have HU : Hid (u = T.getD (n - 1 - k) 0) := hu
      obtain ⟨m, hm⟩ : ∃ m, m = n - 1 - k := ⟨_, rfl⟩
      rw [← hm] at h1
      have em : (n : Int) - 1 - (k : Int) = (m : Int) := by omega
      rw [em]
      have z1 : (0 : Int) ≤ (m : Int) := by omega
      have z2 : (p : Int) ≤ (m : Int) := by omega
      have z3 : (m : Int) < (n : Int) := by omega
      have z4 : (n : Int) - (m : Int) = (k : Int) + 1 := by omega
      have hDl : D.length ≤ 1000000000 := by have := NU_le T k; rw [HD.out]; omega
      have HM : Hid (m = n - 1 - k) := hm
      clear hu hm em
      by_cases hb : u = 10
      · subst hb
        go_wp2_with (at_builtin; (refine wpList_push rfl (.tmp 20) (.tmp 25) 23 rfl .i64 3 8 Try.underlying23 Try.info3 (by decide) w.heap.size (.slice q D.length c') D ((k : Int) + 1) rfl (HO.out.alloc _) _ rfl (cell_new1 _ _ _) hDl (by have := HB.out.size; simp; omega) ?_; intro v' w' ho' hg'))
        obtain ⟨q', c2, rfl, _⟩ := ho'.slice
        have HB' : Below w.heap.size w w' := (HB.out.alloc HB.out.size _).grown hg' (by have := HB.out.size; simp; omega) (fun b hb => (HO.out.lt b hb).1)
        go_roundw
        case rel => exact ⟨k + 1, c2, q', D ++ [(k : Int) + 1], by omega, rfl, (by have := HM.out; go_num), by show _ = _; rw [HD.out]; simp only [NU]; rw [← L.out, if_pos HU.out.symm], ho', HB'⟩
        case measure => simp [intOf]
      · go_wp2
        go_roundw
        case rel => exact ⟨k + 1, c', q, D, by omega, rfl, (by have := HM.out; go_num), by show _ = _; rw [HD.out]; simp only [NU]; rw [← L.out, if_neg (by rw [← HU.out]; exact hb)]; simp, HO.out, HB.out⟩
        case measure => simp [intOf]
    · obtain rfl : k = n - p := by omega
      have z1 : (n : Int) - 1 - ((n - p : Nat) : Int) < (p : Int) := by omega
      go_wp2
      go_ret
      exact ⟨_, rfl, HD.out ▸ HO.out, HB.out⟩
end Go.Proofs.Qxb6602056a
