import Derived.Test.Qxb6601905aQuo
namespace Go.Proofs.Qxb6601905a
open Go.RowKit

theorem bsb21v (s : ByteArray) (j v : Nat) (w : World) (hs : s.size ≤ 1048576) (h1 : 1 ≤ j) (h2 : j ≤ s.size) (hv : bsb (byt s) j = v) :
    Calls Try.prog 21 #[.string s, .int .i64 1, .int .i64 (j : Int)] w fun e w' => e = .returned (.int .i64 (v : Int)) ∧ w' = w := by
  rw [← hv]; exact bsb21 s j w hs h1 h2

set_option maxRecDepth 20000 in
set_option maxHeartbeats 1000000 in
theorem model10 (s : ByteArray) (r : Bool) (hr : r = true ↔ Mdl s) (w : World) (hs : s.size ≤ 1048576) :
    Calls Try.prog 10 #[.string s] w fun e w' => e = .returned (.bool r) ∧ w' = w := by
  have HR : Hid (r = true ↔ Mdl s) := hr
  have RF : Hid (¬ Mdl s → false = r) := fun h => by
    cases hrr : r with
    | false => rfl
    | true => exact absurd (hr.1 hrr) h
  clear hr
  by_cases h2 : s.size < 2
  · go_enter Try.func10, Try.ntmps10
    go_wp2
    go_ret
    exact ⟨ret_bool (RF.out fun m => by have := m.1; omega), rfl⟩
  have z0 : (0 : Int) < (s.size : Int) := by omega
  have p0 : 0 < s.size := by omega
  have B0 : Hid (byt s 0 = s[0].toNat) := byt_at p0
  by_cases c0 : ((s[0].toNat : Int) != 34) = true
  · go_enter Try.func10, Try.ntmps10
    go_wp2
    go_ret
    exact ⟨ret_bool (RF.out fun m => by have := m.2.1; rw [B0.out] at this; simp at c0; omega), rfl⟩
  have c0' : ((s[0].toNat : Int) != 34) = false := by simpa using c0
  clear c0
  obtain ⟨n1, hn1⟩ : ∃ n1, n1 = s.size - 1 := ⟨_, rfl⟩
  have e1 : (s.size : Int) - 1 = (n1 : Int) := by omega
  have hn : n1 < s.size := by omega
  have B1' : Hid (byt s n1 = s[n1].toNat) := byt_at hn
  have HN1 : Hid (n1 = s.size - 1) := hn1
  have hn0 : 1 ≤ n1 := by omega
  clear hn1
  by_cases c1 : ((s[n1].toNat : Int) != 34) = true
  · go_enter Try.func10, Try.ntmps10
    go_wp2
    go_ret
    exact ⟨ret_bool (RF.out fun m => by have := m.2.2.1; rw [← HN1.out, B1'.out] at this; simp at c1; omega), rfl⟩
  have c1' : ((s[n1].toNat : Int) != 34) = false := by simpa using c1
  clear c1
  go_enter Try.func10, Try.ntmps10
  go_wp2
  go_loop [4] (fun i => ∃ j : Nat, 1 ≤ j ∧ j ≤ n1 ∧ i = .int .i64 (j : Int) ∧ Hid (∀ i, 1 ≤ i → i < j → okAt (byt s) i)) (fun i => n1 - (intOf i).toNat)
  case atStart => exact ⟨1, Nat.le_refl _, by omega, rfl, fun i h1 h2 => by omega⟩
  case round =>
    obtain ⟨j, hj1, hj2, rfl, HO⟩ := hrel
    by_cases hlt : j < n1
    · have z1 : (0 : Int) ≤ (j : Int) := by omega
      have z2 : (j : Int) < (s.size : Int) := by omega
      have hjs : j < s.size := by omega
      have HBj : Hid (byt s j = s[j].toNat) := byt_at hjs
      have hp : j + 1 < s.size := by omega
      by_cases hA : (32 : Int) ≤ (s[j].toNat : Int) ∧ (s[j].toNat : Int) ≤ 126
      · obtain ⟨a1, a2⟩ := hA
        by_cases hB : ((s[j].toNat : Int) == 34) = true
        · obtain ⟨v, hv⟩ : ∃ v, bsb (byt s) j = v := ⟨_, rfl⟩
          have HV : Hid (bsb (byt s) j = v) := hv
          have hvl : v ≤ 1048576 := by have := bsb_le (byt s) j; omega
          clear hv
          by_cases hev : v % 2 = 0
          · have hz : ((v : Int) % 2 == 0) = true := by simp; omega
            go_wp2_with (first
              | (go_at_call 20; go_in)
              | (go_at_call 21; refine (bsb21v s j v _ hs hj1 (by omega) HV.out).mono ?_; rintro e w' ⟨rfl, rfl⟩))
            go_ret
            exact ⟨ret_bool (RF.out fun m => by
              have h1 := (m.2.2.2.1 j hj1 hp).2 (by rw [HBj.out]; simp at hB; omega)
              rw [HV.out] at h1; omega), rfl⟩
          · have hz : ((v : Int) % 2 == 0) = false := by simp; omega
            go_wp2_with (first
              | (go_at_call 20; go_in)
              | (go_at_call 21; refine (bsb21v s j v _ hs hj1 (by omega) HV.out).mono ?_; rintro e w' ⟨rfl, rfl⟩))
            go_round
            case rel => exact ⟨j + 1, by omega, by omega, by go_num, okAt_snoc HO.out ⟨⟨by rw [HBj.out]; omega, by rw [HBj.out]; omega⟩, fun _ => by rw [HV.out]; omega⟩⟩
            case measure => simp [intOf]; omega
        · have hB' : ((s[j].toNat : Int) == 34) = false := by simpa using hB
          clear hB
          go_wp2_with (first
            | (go_at_call 20; go_in))
          go_round
          case rel => exact ⟨j + 1, by omega, by omega, by go_num, okAt_snoc HO.out ⟨⟨by rw [HBj.out]; omega, by rw [HBj.out]; omega⟩, fun h => by rw [HBj.out] at h; simp at hB'; omega⟩⟩
          case measure => simp [intOf]; omega
      · have hA' : (s[j].toNat : Int) < 32 ∨ 126 < (s[j].toNat : Int) := by omega
        clear hA
        rcases hA' with d1 | d1
        · have q1 : decide ((32 : Int) ≤ (s[j].toNat : Int)) = false := by simp; omega
          go_wp2_with (first
            | (go_at_call 20; go_in))
          go_ret
          exact ⟨ret_bool (RF.out (no_print hj1 hp (by rw [HBj.out]; omega))), rfl⟩
        · have q1 : (32 : Int) ≤ (s[j].toNat : Int) := by omega
          have q2 : decide ((s[j].toNat : Int) ≤ 126) = false := by simp; omega
          go_wp2_with (first
            | (go_at_call 20; go_in))
          go_ret
          exact ⟨ret_bool (RF.out (no_print hj1 hp (by rw [HBj.out]; omega))), rfl⟩
    · obtain rfl : j = n1 := by omega
      obtain ⟨v, hv⟩ : ∃ v, bsb (byt s) j = v := ⟨_, rfl⟩
      have HV : Hid (bsb (byt s) j = v) := hv
      have hvl : v ≤ 1048576 := by have := bsb_le (byt s) j; omega
      clear hv
      go_wp2_with (first
        | (go_at_call 21; refine (bsb21v s j v _ hs hj1 (by omega) HV.out).mono ?_; rintro e w' ⟨rfl, rfl⟩))
      go_ret
      refine ⟨ret_bool ?_, rfl⟩
      rw [Bool.eq_iff_iff, HR.out]
      constructor
      · intro h
        refine ⟨by omega, ?_, ?_, ?_, ?_⟩
        · rw [B0.out]; simp at c0'; omega
        · rw [← HN1.out, B1'.out]; simp at c1'; omega
        · intro i h1 h3
          exact HO.out i h1 (by have := HN1.out; omega)
        · rw [← HN1.out, HV.out]; simp at h; omega
      · intro m
        have h1 := m.2.2.2.2
        rw [← HN1.out, HV.out] at h1
        simp; omega

set_option maxRecDepth 20000 in
set_option maxHeartbeats 400000 in
theorem valid9 (s : ByteArray) (r : Bool) (hr : r = true ↔ Mdl s) (w : World) (hs : s.size ≤ 1048576) :
    Calls Try.prog 9 #[.string s] w fun e w' => e = .returned (.bool r) ∧ w' = w := by
  have HR : Hid (r = true ↔ Mdl s) := hr
  clear hr
  go_enter Try.func9, Try.ntmps9
  go_wp2_with (first
    | (go_at_call 19; refine (valid19 s r HR.out _ hs).mono ?_; rintro e w' ⟨rfl, rfl⟩))
  go_ret
  exact ⟨rfl, rfl⟩

set_option maxRecDepth 20000 in
set_option maxHeartbeats 400000 in
theorem law3 (s : ByteArray) (hs : s.size ≤ maxLen) (w : World) :
    Calls Try.prog 3 #[.string s] w fun e w' => e = .returned (.bool true) ∧ w' = w := by
  unfold maxLen at hs
  obtain ⟨r, hr⟩ := mdl_dec s
  have HR : Hid (r = true ↔ Mdl s) := hr
  clear hr
  by_cases hb : s.size ≤ 1048576
  · have e0 : (r == r) = true := by cases r <;> rfl
    go_enter Try.func3, Try.ntmps3
    go_wp2_with (first
      | (go_at_call 8; go_in)
      | (go_at_call 9; refine (valid9 s r HR.out _ hb).mono ?_; rintro e w' ⟨rfl, rfl⟩)
      | (go_at_call 10; refine (model10 s r HR.out _ hb).mono ?_; rintro e w' ⟨rfl, rfl⟩))
    go_ret
    exact ⟨ret_bool (by cases r <;> rfl), rfl⟩
  · go_enter Try.func3, Try.ntmps3
    go_wp2
    go_ret
    exact ⟨rfl, rfl⟩
end Go.Proofs.Qxb6601905a
