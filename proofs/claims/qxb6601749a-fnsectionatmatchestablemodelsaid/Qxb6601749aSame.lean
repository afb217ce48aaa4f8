import Derived.Test.Qxb6601749aPay
namespace Go.Proofs.Qxb6601749a
open Go.RowKit

def sameB (n : Nat) (P Q : Nat → Int) : Bool := (List.range n).all fun i => P i == Q i
theorem sameB_iff {n : Nat} {P Q : Nat → Int} : sameB n P Q = true ↔ ∀ i, i < n → P i = Q i := by simp [sameB]

theorem At.drewN {w : World} {b off n : Nat} {P : Nat → Int} (h : At w b off n P) (m : Nat) : At (w.drewN m) b off n P := fun i hi => ⟨by simpa using (h i hi).1, (h i hi).2⟩

theorem drewN_add (w : World) (n m : Nat) : (w.drewN n).drewN m = w.drewN (n + m) := by
  simp [World.drewN, Nat.add_assoc]

theorem cell_lt {w : World} {b o : Nat} {v : Value} (h : w.cell? ⟨b, o, none⟩ = some v) : b < w.heap.size := by
  rcases Nat.lt_or_ge b w.heap.size with hlt | hge
  · exact hlt
  · simp [World.cell?, Array.getElem?_eq_none hge] at h
theorem At.lt {w : World} {b off n : Nat} {P : Nat → Int} (h : At w b off n P) (hn : 0 < n) : b < w.heap.size := cell_lt (h 0 hn).1
theorem At.below {B : Nat} {w w' : World} {b off n : Nat} {P : Nat → Int} (h : At w b off n P) (hb : Below B w w') (hlt : b < B) : At w' b off n P :=
  fun i hi => ⟨(hb.cell (p := ⟨b, off + i, none⟩) hlt).trans (h i hi).1, (h i hi).2⟩
theorem At.le {w : World} {b off n m : Nat} {P : Nat → Int} (h : At w b off n P) (hm : m ≤ n) : At w b off m P := fun i hi => h i (by omega)
theorem At.sub {w : World} {b off n : Nat} {P : Nat → Int} (h : At w b off n P) (k m : Nat) (hm : k + m ≤ n) : At w b (off + k) m (fun i => P (k + i)) :=
  fun i hi => by have := h (k + i) (by omega); rw [Nat.add_assoc]; exact this
theorem At.alloc {w : World} {b off n : Nat} {P : Nat → Int} (h : At w b off n P) (hlt : b < w.heap.size) (o : Obj) : At (w.alloc o) b off n P := h.below ((Below.refl w.heap.size w).alloc (Nat.le_refl _) o) hlt

set_option maxHeartbeats 1000000 in
theorem pay14n (b off cap : Nat) (P : Nat → Int) (pid : Int) (w : World) (hat : At w b off 188 P) (hcap : 188 ≤ cap) (hcm : cap ≤ 9223372036854775807) (hp : pay P pid = none) :
    Calls Try.prog 14 #[.slice (some ⟨b, off, none⟩) 188 cap, .int .i64 pid] w fun e w' => e = .returned (.tuple #[.slice none 0 0, .bool false]) ∧ ∃ n, w' = w.drewN n := by
  have HP : Hid (pay P pid = none) := hp
  have HA : Hid (At w b off 188 P) := hat
  clear hat hp
  go_enter Try.func14, Try.ntmps14
  go_wp2_with (go_at_call 33; refine (pay33n b off cap P pid _ HA.out hcap hcm HP.out).mono ?_; rintro e w' ⟨rfl, n, rfl⟩)
  go_ret2
  exact ⟨rfl, _, rfl⟩
set_option maxHeartbeats 1000000 in
theorem pay14s (b off cap : Nat) (P : Nat → Int) (pid : Int) (w : World) (hat : At w b off 188 P) (hcap : 188 ≤ cap) (hcm : cap ≤ 9223372036854775807) (a : Nat) (s : Bool) (hp : pay P pid = some a) (hs : stt P = s) :
    Calls Try.prog 14 #[.slice (some ⟨b, off, none⟩) 188 cap, .int .i64 pid] w fun e w' => e = .returned (.tuple #[.slice (some ⟨b, off + a, none⟩) (188 - a) (cap - a), .bool s]) ∧ ∃ n, w' = w.drewN n := by
  have HP : Hid (pay P pid = some a) := hp
  have HS : Hid (stt P = s) := hs
  have HA : Hid (At w b off 188 P) := hat
  clear hat hp hs
  go_enter Try.func14, Try.ntmps14
  go_wp2_with (go_at_call 33; refine (pay33s b off cap P pid _ HA.out hcap hcm a s HP.out HS.out).mono ?_; rintro e w' ⟨rfl, n, rfl⟩)
  go_ret2
  exact ⟨rfl, _, rfl⟩

set_option maxHeartbeats 1000000 in
theorem same17 (b1 o1 c1 b2 o2 c2 n : Nat) (P Q : Nat → Int) (w : World) (hP : At w b1 o1 n P) (hQ : At w b2 o2 n Q) (hn : n ≤ 9000000000000000000) :
    Calls Try.prog 17 #[.slice (some ⟨b1, o1, none⟩) n c1, .slice (some ⟨b2, o2, none⟩) n c2] w fun e w' => e = .returned (.bool (sameB n P Q)) ∧ ∃ m, w' = w.drewN m := by
  have HP : Hid (At w b1 o1 n P) := hP
  have HQ : Hid (At w b2 o2 n Q) := hQ
  clear hP hQ
  go_enter Try.func17, Try.ntmps17
  go_wp2
  go_loopw [5] (fun i wr => ∃ k m : Nat, k ≤ n ∧ i = .int .i64 k ∧ wr = w.drewN m ∧ Hid (∀ j, j < k → P j = Q j)) (fun i _ => n - (intOf i).toNat)
  case atStart => exact ⟨0, 0, Nat.zero_le _, rfl, by simp [World.drewN], fun j hj => absurd hj (by omega)⟩
  case round =>
    obtain ⟨k, m, hk, rfl, rfl, HE⟩ := hrel
    by_cases hlt : k < n
    · obtain ⟨h1, d1⟩ := HP.out k hlt
      obtain ⟨h2, d2⟩ := HQ.out k hlt
      have i1 : (0 : Int) ≤ (k : Int) := by omega
      have i2 : (k : Int) < (n : Int) := by omega
      go_wp2
      go_quiet (fail)
      go_wp2
      · go_ret
        have hne : (P k != Q k) = true := by assumption
        refine ⟨ret_bool ?_, _, drewN_add _ _ _⟩
        symm
        rw [Bool.eq_false_iff]
        intro hs
        have := sameB_iff.1 hs k hlt
        simp [this] at hne
      · have hne : (P k != Q k) = false := by assumption
        go_roundw
        case rel => exact ⟨k + 1, _, by omega, by go_num, rfl, fun j hj => by
            rcases Nat.lt_succ_iff_lt_or_eq.1 hj with h | h
            · exact HE.out j h
            · subst h; simpa using hne⟩
        case measure => simp [intOf]; omega
    · go_wp2
      go_ret
      refine ⟨ret_bool ?_, _, rfl⟩
      symm
      rw [sameB_iff]
      intro i hi
      exact HE.out i (by omega)

end Go.Proofs.Qxb6601749a
