import Derived.Test.Qxb6602056aBase
namespace Go.Proofs.Qxb6602056a
open Go.RowKit

theorem ret_bool {a b : Bool} (h : a = b) : Ending.returned (.bool a) = .returned (.bool b) := by rw [h]
theorem ret_int {k : IntKind} {a b : Int} (h : a = b) : Ending.returned (.int k a) = .returned (.int k b) := by rw [h]
theorem drewN_add (w : World) (n m : Nat) : (w.drewN n).drewN m = w.drewN (n + m) := by simp [World.drewN, Nat.add_assoc]
theorem In.at {k : IntKind} {w : World} {p : Option Addr} {n c j : Nat} {D : List Int} (h : In k w p n c D) (hj : j < n) : ∃ b o, p = some ⟨b, o, none⟩ ∧ w.cell? ⟨b, o + j, none⟩ = some (.int k (D.getD j 0)) := by
  rcases h with ⟨_, h, _⟩ | ⟨x, h1, h2, h3⟩
  · omega
  · obtain ⟨b, o, spot⟩ := x
    have hspot : spot = none := by simpa [Addr.add] using World.cell?_spot (h3 0 (by omega))
    subst hspot
    have := h3 j hj
    rw [add_none] at this
    exact ⟨b, o, h1, this⟩

set_option maxRecDepth 20000 in
set_option maxHeartbeats 1000000 in
theorem eq17 (p1 p2 : Option Addr) (n1 c1 n2 c2 : Nat) (A B : List Int) (r : Bool) (hr : r = true ↔ A = B) (w : World) (i1 : In .i32 w p1 n1 c1 A) (i2 : In .i32 w p2 n2 c2 B) (hn : n1 ≤ 1000000000) (hn2 : n2 ≤ 1000000000) :
    Calls Try.prog 17 #[.slice p1 n1 c1, .slice p2 n2 c2] w fun e w' => e = .returned (.bool r) ∧ ∃ q, w' = w.drewN q := by
  have I1 : Hid (In .i32 w p1 n1 c1 A) := i1
  have I2 : Hid (In .i32 w p2 n2 c2 B) := i2
  have L1 : Hid (n1 = A.length) := i1.len
  have L2 : Hid (n2 = B.length) := i2.len
  have HR : Hid (r = true ↔ A = B) := hr
  have RF : Hid (A ≠ B → false = r) := fun h => by
    cases hrr : r with
    | false => rfl
    | true => exact absurd (hr.1 hrr) h
  clear i1 i2 hr
  by_cases hne : n1 = n2
  · subst hne
    go_enter Try.func17, Try.ntmps17
    go_wp2
    go_loopw [5] (fun i wr => ∃ k q : Nat, k ≤ n1 ∧ i = .int .i64 (k : Int) ∧ wr = w.drewN q ∧ Hid (∀ j, j < k → A.getD j 0 = B.getD j 0)) (fun i _ => n1 - (intOf i).toNat)
    case atStart => exact ⟨0, 0, Nat.zero_le _, rfl, by simp [World.drewN], fun j hj => absurd hj (by omega)⟩
    case round =>
      obtain ⟨k, q, hk, rfl, rfl, HE⟩ := hrel
      by_cases hlt : k < n1
      · obtain ⟨b1, o1, rfl, h1⟩ := I1.out.at hlt
        obtain ⟨b2, o2, rfl, h2⟩ := I2.out.at hlt
        obtain ⟨u, hu⟩ : ∃ u, u = A.getD k 0 := ⟨_, rfl⟩
        obtain ⟨v, hv⟩ : ∃ v, v = B.getD k 0 := ⟨_, rfl⟩
        rw [← hu] at h1
        rw [← hv] at h2
        have HU : Hid (u = A.getD k 0) := hu
        have HV : Hid (v = B.getD k 0) := hv
        have z1 : (0 : Int) ≤ (k : Int) := by omega
        have z2 : (k : Int) < (n1 : Int) := by omega
        clear hu hv
        go_wp2
        go_quiet (fail)
        go_wp2
        · go_ret
          have hb : (u != v) = true := by assumption
          exact ⟨ret_bool (RF.out fun e => by rw [HU.out, HV.out, e] at hb; simp at hb), _, drewN_add _ _ _⟩
        · have hb : (u != v) = false := by assumption
          go_roundw
          case rel => exact ⟨k + 1, _, by omega, by go_num, rfl, fun j hj => by
              rcases Nat.lt_succ_iff_lt_or_eq.1 hj with h | h
              · exact HE.out j h
              · rw [h, ← HU.out, ← HV.out]; simpa using hb⟩
          case measure => simp [intOf]; omega
      · go_wp2
        go_ret
        refine ⟨ret_bool (Eq.symm (HR.out.2 ?_)), _, rfl⟩
        apply List.ext_getElem?
        intro i
        have l1 := L1.out
        have l2 := L2.out
        by_cases hi : i < n1
        · have := HE.out i (by omega)
          rw [List.getD_eq_getElem?_getD, List.getD_eq_getElem?_getD, List.getElem?_eq_getElem (by omega), List.getElem?_eq_getElem (by omega)] at this
          rw [List.getElem?_eq_getElem (by omega), List.getElem?_eq_getElem (by omega)]
          simpa using this
        · rw [List.getElem?_eq_none (by omega), List.getElem?_eq_none (by omega)]
  · have hb : ((n1 : Int) != (n2 : Int)) = true := by simp; omega
    go_enter Try.func17, Try.ntmps17
    go_wp2
    go_ret
    exact ⟨ret_bool (RF.out fun e => hne (by rw [L1.out, L2.out, e])), 0, by simp [World.drewN]⟩

set_option maxRecDepth 20000 in
set_option maxHeartbeats 1000000 in
theorem eq18 (p1 p2 : Option Addr) (n1 c1 n2 c2 : Nat) (A B : List Int) (r : Bool) (hr : r = true ↔ A = B) (w : World) (i1 : In .i64 w p1 n1 c1 A) (i2 : In .i64 w p2 n2 c2 B) (hn : n1 ≤ 1000000000) (hn2 : n2 ≤ 1000000000) :
    Calls Try.prog 18 #[.slice p1 n1 c1, .slice p2 n2 c2] w fun e w' => e = .returned (.bool r) ∧ ∃ q, w' = w.drewN q := by
  have I1 : Hid (In .i64 w p1 n1 c1 A) := i1
  have I2 : Hid (In .i64 w p2 n2 c2 B) := i2
  have L1 : Hid (n1 = A.length) := i1.len
  have L2 : Hid (n2 = B.length) := i2.len
  have HR : Hid (r = true ↔ A = B) := hr
  have RF : Hid (A ≠ B → false = r) := fun h => by
    cases hrr : r with
    | false => rfl
    | true => exact absurd (hr.1 hrr) h
  clear i1 i2 hr
  by_cases hne : n1 = n2
  · subst hne
    go_enter Try.func18, Try.ntmps18
    go_wp2
    go_loopw [5] (fun i wr => ∃ k q : Nat, k ≤ n1 ∧ i = .int .i64 (k : Int) ∧ wr = w.drewN q ∧ Hid (∀ j, j < k → A.getD j 0 = B.getD j 0)) (fun i _ => n1 - (intOf i).toNat)
    case atStart => exact ⟨0, 0, Nat.zero_le _, rfl, by simp [World.drewN], fun j hj => absurd hj (by omega)⟩
    case round =>
      obtain ⟨k, q, hk, rfl, rfl, HE⟩ := hrel
      by_cases hlt : k < n1
      · obtain ⟨b1, o1, rfl, h1⟩ := I1.out.at hlt
        obtain ⟨b2, o2, rfl, h2⟩ := I2.out.at hlt
        obtain ⟨u, hu⟩ : ∃ u, u = A.getD k 0 := ⟨_, rfl⟩
        obtain ⟨v, hv⟩ : ∃ v, v = B.getD k 0 := ⟨_, rfl⟩
        rw [← hu] at h1
        rw [← hv] at h2
        have HU : Hid (u = A.getD k 0) := hu
        have HV : Hid (v = B.getD k 0) := hv
        have z1 : (0 : Int) ≤ (k : Int) := by omega
        have z2 : (k : Int) < (n1 : Int) := by omega
        clear hu hv
        go_wp2
        go_quiet (fail)
        go_wp2
        · go_ret
          have hb : (u != v) = true := by assumption
          exact ⟨ret_bool (RF.out fun e => by rw [HU.out, HV.out, e] at hb; simp at hb), _, drewN_add _ _ _⟩
        · have hb : (u != v) = false := by assumption
          go_roundw
          case rel => exact ⟨k + 1, _, by omega, by go_num, rfl, fun j hj => by
              rcases Nat.lt_succ_iff_lt_or_eq.1 hj with h | h
              · exact HE.out j h
              · rw [h, ← HU.out, ← HV.out]; simpa using hb⟩
          case measure => simp [intOf]; omega
      · go_wp2
        go_ret
        refine ⟨ret_bool (Eq.symm (HR.out.2 ?_)), _, rfl⟩
        apply List.ext_getElem?
        intro i
        have l1 := L1.out
        have l2 := L2.out
        by_cases hi : i < n1
        · have := HE.out i (by omega)
          rw [List.getD_eq_getElem?_getD, List.getD_eq_getElem?_getD, List.getElem?_eq_getElem (by omega), List.getElem?_eq_getElem (by omega)] at this
          rw [List.getElem?_eq_getElem (by omega), List.getElem?_eq_getElem (by omega)]
          simpa using this
        · rw [List.getElem?_eq_none (by omega), List.getElem?_eq_none (by omega)]
  · have hb : ((n1 : Int) != (n2 : Int)) = true := by simp; omega
    go_enter Try.func18, Try.ntmps18
    go_wp2
    go_ret
    exact ⟨ret_bool (RF.out fun e => hne (by rw [L1.out, L2.out, e])), 0, by simp [World.drewN]⟩

end Go.Proofs.Qxb6602056a
