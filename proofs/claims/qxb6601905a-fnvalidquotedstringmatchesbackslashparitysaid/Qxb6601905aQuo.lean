import Derived.Test.Qxb6601905aProg
import Derived.WalkKit
import Derived.WalkSpells
import Derived.WalkLawsBesides
namespace Go.Proofs.Qxb6601905a
open Go.RowKit

/-- The i-th byte (0 behind the end). -/
def byt (s : ByteArray) (i : Nat) : Nat := if h : i < s.size then s[i].toNat else 0
theorem byt_at {s : ByteArray} {i : Nat} (h : i < s.size) : byt s i = s[i].toNat := by simp [byt, h]
theorem byt_le (s : ByteArray) (i : Nat) : byt s i ≤ 255 := by
  unfold byt; split
  · have := s[i].toNat_lt; omega
  · omega

/-- The backslashes right before j, never reaching below 1. -/
def bsb (f : Nat → Nat) : Nat → Nat
  | 0 => 0
  | j + 1 => if 1 ≤ j ∧ f j = 92 then bsb f j + 1 else 0
theorem bsb_le (f : Nat → Nat) (j : Nat) : bsb f j ≤ j := by
  induction j with
  | zero => exact Nat.le_refl _
  | succ j ih => unfold bsb; split <;> omega
theorem bsb_hit {f : Nat → Nat} {j : Nat} (h : 1 ≤ j) (h' : f j = 92) : bsb f (j + 1) = bsb f j + 1 := by rw [bsb, if_pos ⟨h, h'⟩]
theorem bsb_miss {f : Nat → Nat} {j : Nat} (h' : f j ≠ 92) : bsb f (j + 1) = 0 := by rw [bsb, if_neg (fun h => h' h.2)]
theorem bsb_one (f : Nat → Nat) : bsb f 1 = 0 := by rw [bsb, if_neg (by omega)]

def okAt (f : Nat → Nat) (j : Nat) : Prop := (32 ≤ f j ∧ f j ≤ 126) ∧ (f j = 34 → bsb f j % 2 = 1)
/-- The model. -/
def Mdl (s : ByteArray) : Prop := 2 ≤ s.size ∧ byt s 0 = 34 ∧ byt s (s.size - 1) = 34 ∧ (∀ j, 1 ≤ j → j + 1 < s.size → okAt (byt s) j) ∧ bsb (byt s) (s.size - 1) % 2 = 0
open Classical in
theorem mdl_dec (s : ByteArray) : ∃ r : Bool, (r = true ↔ Mdl s) := ⟨decide (Mdl s), by simp⟩

theorem ret_bool {a b : Bool} (h : a = b) : Ending.returned (.bool a) = .returned (.bool b) := by rw [h]
theorem ret_int {k : IntKind} {a b : Int} (h : a = b) : Ending.returned (.int k a) = .returned (.int k b) := by rw [h]

set_option maxRecDepth 20000 in
set_option maxHeartbeats 400000 in
theorem bsb21 (s : ByteArray) (j : Nat) (w : World) (hs : s.size ≤ 1048576) (h1 : 1 ≤ j) (h2 : j ≤ s.size) :
    Calls Try.prog 21 #[.string s, .int .i64 1, .int .i64 (j : Int)] w fun e w' => e = .returned (.int .i64 (bsb (byt s) j : Int)) ∧ w' = w := by
  obtain ⟨R, hR⟩ : ∃ R, R = bsb (byt s) j := ⟨_, rfl⟩
  have HR : Hid (R = bsb (byt s) j) := hR
  rw [← hR]
  clear hR
  go_enter Try.func21, Try.ntmps21
  go_wp2
  go_loop [7] (fun t => ∃ k : Nat, k + 1 ≤ j ∧ t = .int .i64 (k : Int) ∧ Hid (bsb (byt s) j = k + bsb (byt s) (j - k))) (fun t => j - (intOf t).toNat)
  case atStart => exact ⟨0, by omega, rfl, by show _ = _; simp⟩
  case round =>
    obtain ⟨k, hk, rfl, HI⟩ := hrel
    by_cases hq : k + 2 ≤ j
    · obtain ⟨q, hqe⟩ : ∃ q, q = j - 1 - k := ⟨_, rfl⟩
      have e1 : (j : Int) - 1 - (k : Int) = (q : Int) := by omega
      have hqs : q < s.size := by omega
      have hq1 : (1 : Int) ≤ (q : Int) := by omega
      have HQ : Hid (j - k = q + 1) := by show _ = _; omega
      have HBA : Hid (byt s q = s[q].toNat) := byt_at hqs
      clear hqe
      go_wp2
      · go_round
        case rel =>
          refine ⟨k + 1, by omega, by go_num, ?_⟩
          have hb : ((s[q].toNat : Int) == 92) = true := by assumption
          show _ = _
          rw [HI.out, HQ.out, bsb_hit (by omega) (by rw [HBA.out]; simp at hb; omega), show j - (k + 1) = q by have := HQ.out; omega]
          omega
        case measure => simp [intOf]; omega
      · go_ret
        have hb : ((s[q].toNat : Int) == 92) = false := by assumption
        refine ⟨ret_int ?_, rfl⟩
        rw [HR.out, HI.out, HQ.out, bsb_miss (by rw [HBA.out]; simp at hb; omega)]
        omega
    · obtain rfl : j = k + 1 := by omega
      go_wp2
      go_ret
      refine ⟨ret_int ?_, rfl⟩
      rw [HR.out, HI.out, show k + 1 - k = 1 by omega, bsb_one]
      omega

/-- What the check has seen of the positions below p. -/
def Seen (f : Nat → Nat) (p : Nat) : Prop := (∀ j, 1 ≤ j → j < p → okAt f j) ∧ bsb f p % 2 = 0
theorem Seen.one (f : Nat → Nat) : Seen f 1 := ⟨fun j h1 h2 => by omega, by rw [bsb_one]⟩
theorem okAt_snoc {f : Nat → Nat} {p : Nat} (h : ∀ j, 1 ≤ j → j < p → okAt f j) (hp : okAt f p) : ∀ j, 1 ≤ j → j < p + 1 → okAt f j := by
  intro j h1 h2
  rcases Nat.lt_succ_iff_lt_or_eq.1 h2 with h3 | h3
  · exact h j h1 h3
  · rw [h3]; exact hp
theorem Seen.plain {f : Nat → Nat} {p : Nat} (h : Seen f p) (h1 : 32 ≤ f p) (h2 : f p ≤ 126) (h3 : f p ≠ 34) (h4 : f p ≠ 92) : Seen f (p + 1) :=
  ⟨okAt_snoc h.1 ⟨⟨h1, h2⟩, fun e => absurd e h3⟩, by rw [bsb_miss h4]⟩
theorem Seen.escape {f : Nat → Nat} {p : Nat} (h : Seen f p) (hp : 1 ≤ p) (h4 : f p = 92) (h1 : 32 ≤ f (p + 1)) (h2 : f (p + 1) ≤ 126) : Seen f (p + 2) := by
  have hb := bsb_hit hp h4
  have h0 := h.2
  refine ⟨okAt_snoc (okAt_snoc h.1 ⟨⟨by omega, by omega⟩, fun e => by omega⟩) ⟨⟨h1, h2⟩, fun _ => by omega⟩, ?_⟩
  by_cases e : f (p + 1) = 92
  · rw [bsb_hit (by omega) e]; omega
  · rw [bsb_miss e]

theorem no_print {s : ByteArray} {p : Nat} (h1 : 1 ≤ p) (h2 : p + 1 < s.size) (h : ¬ (32 ≤ byt s p ∧ byt s p ≤ 126)) : ¬ Mdl s := fun m => h (m.2.2.2.1 p h1 h2).1
theorem no_quote {s : ByteArray} {p : Nat} (h1 : 1 ≤ p) (h2 : p + 1 < s.size) (hs : Seen (byt s) p) (h : byt s p = 34) : ¬ Mdl s := fun m => by
  have a := (m.2.2.2.1 p h1 h2).2 h
  have b := hs.2
  omega
theorem no_tail {s : ByteArray} {p : Nat} (h1 : 1 ≤ p) (h2 : p + 2 = s.size) (hs : Seen (byt s) p) (h : byt s p = 92) : ¬ Mdl s := fun m => by
  have a := m.2.2.2.2
  have b := hs.2
  rw [show s.size - 1 = p + 1 by omega, bsb_hit h1 h] at a
  omega

set_option maxRecDepth 20000 in
set_option maxHeartbeats 1000000 in
theorem valid19 (s : ByteArray) (r : Bool) (hr : r = true ↔ Mdl s) (w : World) (hs : s.size ≤ 1048576) :
    Calls Try.prog 19 #[.string s] w fun e w' => e = .returned (.bool r) ∧ w' = w := by
  have HR : Hid (r = true ↔ Mdl s) := hr
  have RF : Hid (¬ Mdl s → false = r) := fun h => by
    cases hrr : r with
    | false => rfl
    | true => exact absurd (hr.1 hrr) h
  clear hr
  by_cases h2 : s.size < 2
  · go_enter Try.func19, Try.ntmps19
    go_wp2
    go_ret
    exact ⟨ret_bool (RF.out fun m => by have := m.1; omega), rfl⟩
  have z0 : (0 : Int) < (s.size : Int) := by omega
  have p0 : 0 < s.size := by omega
  have p1 : s.size - 1 < s.size := by omega
  have B0 : Hid (byt s 0 = s[0].toNat) := byt_at p0
  have B1 : Hid (byt s (s.size - 1) = s[s.size - 1].toNat) := byt_at p1
  by_cases c0 : ((s[0].toNat : Int) != 34) = true
  · go_enter Try.func19, Try.ntmps19
    go_wp2
    all_goals
      go_ret
      exact ⟨ret_bool (RF.out fun m => by have := m.2.1; rw [B0.out] at this; simp at c0; omega), rfl⟩
  have c0' : ((s[0].toNat : Int) != 34) = false := by simpa using c0
  clear c0
  obtain ⟨n1, hn1⟩ : ∃ n1, n1 = s.size - 1 := ⟨_, rfl⟩
  have e1 : (s.size : Int) - 1 = (n1 : Int) := by omega
  have hn : n1 < s.size := by omega
  have B1' : Hid (byt s n1 = s[n1].toNat) := byt_at hn
  have HN1 : Hid (n1 = s.size - 1) := hn1
  clear hn1 B1 p1
  by_cases c1 : ((s[n1].toNat : Int) != 34) = true
  · go_enter Try.func19, Try.ntmps19
    go_wp2
    go_ret
    exact ⟨ret_bool (RF.out fun m => by have := m.2.2.1; rw [← HN1.out, B1'.out] at this; simp at c1; omega), rfl⟩
  have c1' : ((s[n1].toNat : Int) != 34) = false := by simpa using c1
  clear c1
  go_enter Try.func19, Try.ntmps19
  go_wp2
  have hts : (s.extract 1 n1).size = n1 - 1 := by simp [ByteArray.size_extract]; omega
  have htg : ∀ i (h : i < (s.extract 1 n1).size), byt s (i + 1) = ((s.extract 1 n1)[i]).toNat := by
    intro i h
    rw [byt_at (by rw [hts] at h; omega), ByteArray.getElem_extract]
    simp only [Nat.add_comm]
  generalize s.extract 1 n1 = t at hts htg ⊢
  have HTS : Hid (t.size = n1 - 1) := hts
  have HTG : Hid (∀ i (h : i < t.size), byt s (i + 1) = (t[i]).toNat) := htg
  have htl : t.size ≤ 1048576 := by omega
  clear hts htg
  go_loop [4] (fun i => ∃ k : Nat, k ≤ t.size ∧ i = .int .i64 (k : Int) ∧ Hid (Seen (byt s) (k + 1))) (fun i => t.size - (intOf i).toNat)
  case atStart => exact ⟨0, Nat.zero_le _, rfl, Seen.one _⟩
  case round =>
    obtain ⟨k, hk, rfl, HS⟩ := hrel
    by_cases hlt : k < t.size
    · have z1 : (0 : Int) ≤ (k : Int) := by omega
      have z2 : (k : Int) < (t.size : Int) := by omega
      have HB := HTG.out k hlt
      have HBk : Hid (byt s (k + 1) = t[k].toNat) := HB
      have hp : k + 1 + 1 < s.size := by have := HTS.out; omega
      clear HB
      by_cases hA : (32 : Int) ≤ (t[k].toNat : Int) ∧ (t[k].toNat : Int) ≤ 126
      · obtain ⟨a1, a2⟩ := hA
        by_cases hB : ((t[k].toNat : Int) == 34) = true
        · go_wp2
          go_ret
          exact ⟨ret_bool (RF.out (no_quote (p := k + 1) (by omega) hp HS.out (by rw [HBk.out]; simp at hB; omega))), rfl⟩
        have hB' : ((t[k].toNat : Int) == 34) = false := by simpa using hB
        clear hB
        by_cases hE : ((t[k].toNat : Int) == 92) = true
        · by_cases hk1 : k + 1 < t.size
          · have HBn : Hid (byt s (k + 1 + 1) = t[k + 1].toNat) := HTG.out (k + 1) hk1
            have hp2 : k + 1 + 1 + 1 < s.size := by have := HTS.out; omega
            have z3 : (k : Int) + 1 < (t.size : Int) := by omega
            have z4 : ((k : Int) + 1 == (t.size : Int)) = false := by simp; omega
            by_cases hD : (32 : Int) ≤ (t[k + 1].toNat : Int) ∧ (t[k + 1].toNat : Int) ≤ 126
            · obtain ⟨d1, d2⟩ := hD
              go_wp2
              go_round
              case rel => exact ⟨k + 1 + 1, by omega, by go_num, HS.out.escape (by omega) (by rw [HBk.out]; simp at hE; omega) (by rw [HBn.out]; omega) (by rw [HBn.out]; omega)⟩
              case measure => simp [intOf]; omega
            · have hD' : (t[k + 1].toNat : Int) < 32 ∨ 126 < (t[k + 1].toNat : Int) := by omega
              clear hD
              rcases hD' with d1 | d1
              all_goals
                go_wp2
                go_ret
                exact ⟨ret_bool (RF.out (no_print (p := k + 1 + 1) (by omega) hp2 (by rw [HBn.out]; omega))), rfl⟩
          · have hk2 : ((k : Int) + 1 == (t.size : Int)) = true := by simp; omega
            go_wp2
            go_ret
            exact ⟨ret_bool (RF.out (no_tail (p := k + 1) (by omega) (by have := HTS.out; have := HN1.out; omega) HS.out (by rw [HBk.out]; simp at hE; omega))), rfl⟩
        · have hE' : ((t[k].toNat : Int) == 92) = false := by simpa using hE
          clear hE
          go_wp2
          go_round
          case rel => exact ⟨k + 1, by omega, by go_num, HS.out.plain (by rw [HBk.out]; omega) (by rw [HBk.out]; omega) (by rw [HBk.out]; simp at hB'; omega) (by rw [HBk.out]; simp at hE'; omega)⟩
          case measure => simp [intOf]; omega
      · have hA' : (t[k].toNat : Int) < 32 ∨ 126 < (t[k].toNat : Int) := by omega
        clear hA
        rcases hA' with d1 | d1
        all_goals
          go_wp2
          go_ret
          exact ⟨ret_bool (RF.out (no_print (p := k + 1) (by omega) hp (by rw [HBk.out]; omega))), rfl⟩
    · obtain rfl : k = t.size := by omega
      go_wp2
      go_ret
      refine ⟨ret_bool (Eq.symm (HR.out.2 ⟨by omega, ?_, ?_, ?_, ?_⟩)), rfl⟩
      · rw [B0.out]; simp at c0'; omega
      · rw [← HN1.out, B1'.out]; simp at c1'; omega
      · intro j h1 h3
        exact HS.out.1 j h1 (by have := HTS.out; have := HN1.out; omega)
      · rw [← HN1.out, show n1 = t.size + 1 by have := HTS.out; have := HN1.out; omega]
        exact HS.out.2
end Go.Proofs.Qxb6601905a
