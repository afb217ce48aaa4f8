import Derived.Test.Qxb6601749aProg
import Derived.WalkKit
import Derived.WalkSpells
import Derived.WalkLawsBesides
import Derived.Deep.QuietTactic
import Derived.BigQuiet
namespace Go.Proofs.Qxb6601749a
open Go.RowKit

/-- Where the payload of the packet P (188 bytes) begins, if it is a sound packet of pid that has one. -/
def pay (P : Nat → Int) (pid : Int) : Option Nat :=
  if (P 0 != 71) = true then none else
  if (bits .and .u8 (P 1) 128 != 0) = true then none else
  if (bits .or .i64 (P 1 % 32 * 256) (P 2) != pid) = true then none else
  if (bits .and .u8 (P 3 / 16) 3 == 1) = true then some 4 else
  if (bits .and .u8 (P 3 / 16) 3 == 3) = true then (if 5 + P 4 < 188 then some (5 + P 4).toNat else none) else none
/-- Whether a section begins in it. -/
def stt (P : Nat → Int) : Bool := bits .and .u8 (P 1) 64 != 0

theorem pay_range {P : Nat → Int} {pid : Int} {a : Nat} (h4 : 0 ≤ P 4) (h : pay P pid = some a) : 4 ≤ a ∧ a < 188 := by
  unfold pay at h
  split at h
  · cases h
  split at h
  · cases h
  split at h
  · cases h
  split at h
  · cases h; omega
  split at h
  · split at h
    · cases h; omega
    · cases h
  · cases h

/-- The bytes P lie in w from ⟨b, off⟩ on, n of them. -/
def At (w : World) (b off n : Nat) (P : Nat → Int) : Prop := ∀ i, i < n → w.cell? ⟨b, off + i, none⟩ = some (.int .u8 (P i)) ∧ 0 ≤ P i ∧ P i ≤ 255

def payV (b off cap : Nat) (r : Option Nat) (s : Bool) : Value :=
  match r with
  | none => .tuple #[.slice none 0 0, .bool false]
  | some a => .tuple #[.slice (some ⟨b, off + a, none⟩) (188 - a) (cap - a), .bool s]

theorem ret_of {v v' : Value} (h : v = v') : Ending.returned v = .returned v' := by rw [h]

set_option maxHeartbeats 1000000 in
theorem pay33 (b off cap : Nat) (P : Nat → Int) (pid : Int) (w : World) (hat : At w b off 188 P) (hcap : 188 ≤ cap) (hcm : cap ≤ 9223372036854775807) :
    Calls Try.prog 33 #[.slice (some ⟨b, off, none⟩) 188 cap, .int .i64 pid] w fun e w' => e = .returned (payV b off cap (pay P pid) (stt P)) ∧ ∃ n, w' = w.drewN n := by
  obtain ⟨h0, d0⟩ := hat 0 (by omega)
  obtain ⟨h1, d1⟩ := hat 1 (by omega)
  obtain ⟨h2, d2⟩ := hat 2 (by omega)
  obtain ⟨h3, d3⟩ := hat 3 (by omega)
  obtain ⟨h4, d4⟩ := hat 4 (by omega)
  clear hat
  simp only [Nat.add_zero] at h0
  obtain ⟨R, hR⟩ : ∃ R, R = payV b off cap (pay P pid) (stt P) := ⟨_, rfl⟩
  have HR : Hid (R = payV b off cap (pay P pid) (stt P)) := hR
  rw [← hR]
  clear hR
  by_cases c1 : (P 0 != 71) = true
  · go_enter Try.func33, Try.ntmps33
    go_wp2
    go_quiet (fail)
    go_wp2
    go_ret2
    exact ⟨ret_of (by rw [HR.out, pay, if_pos c1]; rfl), _, rfl⟩
  have c1' : (P 0 != 71) = false := by simpa using c1
  clear c1
  by_cases c2 : (bits .and .u8 (P 1) 128 != 0) = true
  · go_enter Try.func33, Try.ntmps33
    go_wp2
    go_quiet (fail)
    go_wp2
    go_ret2
    exact ⟨ret_of (by rw [HR.out, pay, if_neg (by simp [c1']), if_pos c2]; rfl), _, rfl⟩
  have c2' : (bits .and .u8 (P 1) 128 != 0) = false := by simpa using c2
  clear c2
  go_enter Try.func33, Try.ntmps33
  go_wp2
  go_quiet (fail)
  go_wp2
  all_goals go_ret2
  · exact ⟨ret_of (by rw [HR.out, pay, if_neg (by rw [c1']; decide), if_neg (by rw [c2']; decide), if_pos ‹_›]; rfl), _, rfl⟩
  · exact ⟨ret_of (by rw [HR.out, pay, if_neg (by rw [c1']; decide), if_neg (by rw [c2']; decide), if_neg (Bool.eq_false_iff.1 ‹_›), if_pos ‹_›]; rfl), _, rfl⟩
  · have hx : 5 + P 4 < 188 := by assumption
    exact ⟨ret_of (by rw [HR.out, pay, if_neg (by rw [c1']; decide), if_neg (by rw [c2']; decide), if_neg (Bool.eq_false_iff.1 ‹_›), if_neg (Bool.eq_false_iff.1 ‹_›), if_pos ‹_›, if_pos hx]; rfl), _, rfl⟩
  · have hx : 188 ≤ 5 + P 4 := by assumption
    exact ⟨ret_of (by rw [HR.out, pay, if_neg (by rw [c1']; decide), if_neg (by rw [c2']; decide), if_neg (Bool.eq_false_iff.1 ‹_›), if_neg (Bool.eq_false_iff.1 ‹_›), if_pos ‹_›, if_neg (by omega)]; rfl), _, rfl⟩
  · exact ⟨ret_of (by rw [HR.out, pay, if_neg (by rw [c1']; decide), if_neg (by rw [c2']; decide), if_neg (Bool.eq_false_iff.1 ‹_›), if_neg (Bool.eq_false_iff.1 ‹_›), if_neg (Bool.eq_false_iff.1 ‹_›)]; rfl), _, rfl⟩

theorem pay33n (b off cap : Nat) (P : Nat → Int) (pid : Int) (w : World) (hat : At w b off 188 P) (hcap : 188 ≤ cap) (hcm : cap ≤ 9223372036854775807) (hp : pay P pid = none) :
    Calls Try.prog 33 #[.slice (some ⟨b, off, none⟩) 188 cap, .int .i64 pid] w fun e w' => e = .returned (.tuple #[.slice none 0 0, .bool false]) ∧ ∃ n, w' = w.drewN n := by
  have h := pay33 b off cap P pid w hat hcap hcm
  rw [hp] at h
  exact h
theorem pay33s (b off cap : Nat) (P : Nat → Int) (pid : Int) (w : World) (hat : At w b off 188 P) (hcap : 188 ≤ cap) (hcm : cap ≤ 9223372036854775807) (a : Nat) (s : Bool) (hp : pay P pid = some a) (hs : stt P = s) :
    Calls Try.prog 33 #[.slice (some ⟨b, off, none⟩) 188 cap, .int .i64 pid] w fun e w' => e = .returned (.tuple #[.slice (some ⟨b, off + a, none⟩) (188 - a) (cap - a), .bool s]) ∧ ∃ n, w' = w.drewN n := by
  have h := pay33 b off cap P pid w hat hcap hcm
  rw [hp, hs] at h
  exact h
theorem ret_bool {a b : Bool} (h : a = b) : Ending.returned (.bool a) = .returned (.bool b) := by rw [h]
end Go.Proofs.Qxb6601749a
