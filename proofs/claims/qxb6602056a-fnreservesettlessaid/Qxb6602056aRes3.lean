import Derived.Test.Qxb6602056aRes2
namespace Go.Proofs.Qxb6602056a
open Go.RowKit
set_option linter.unusedSimpArgs false

/-- What a reserve leaves, whether it grew or not. -/
def Aft (w w' : World) (g gs : Nat) (m bl : Int) (bf af : Value) : Prop :=
  ∃ (v : Value) (E : Nat) (Q : List Int), Buf w' g v gs E bl bf af ∧ Cl .i32 w' 0 v Q ∧ gs ≤ E ∧ E ≤ Q.length ∧ Q.length ≤ 10000000 ∧ m ≤ (E : Int) - (gs : Int) ∧ Below g w w'

theorem Cl.drewN {k : IntKind} {w : World} {base : Nat} {v : Value} {D : List Int} (h : Cl k w base v D) (n : Nat) : Cl k (w.drewN n) base v D := h.belowAll (below_drewN' (Below.refl _ _) n)

theorem aft_of {w w' : World} {g gs m : Nat} {bl : Int} {bf af : Value} (hm : 0 < m) (h : Grew w w' g gs m bl bf af) : Aft w w' g gs m bl bf af := by
  obtain ⟨H, E, Q, h1, h2, h3, h4, h5, h6, h7⟩ := h
  exact ⟨_, E, Q, h1, .inr ⟨H, rfl, Nat.zero_le _, cell_lt (h2 0 (by omega)), h2⟩, by omega, h4, h5, by omega, h6⟩

theorem reserve27 (g gs ge : Nat) (m bl : Int) (v bf af : Value) (R : List Int) (w : World) (h : Buf w g v gs ge bl bf af) (hv : Cl .i32 w 0 v R) (h2 : gs ≤ ge) (h3 : ge ≤ R.length) (h4 : R.length ≤ 262144) (hm2 : m ≤ 65536) :
    Calls Try.prog 27 #[.pointer (some ⟨g, 0, none⟩), .int .i64 m] w fun e w' => e = .returned (.tuple #[]) ∧ Aft w w' g gs m bl bf af := by
  by_cases hm : m ≤ (ge : Int) - (gs : Int)
  · refine (reserve27a g v gs ge bl m bf af w h (by omega) (by omega) (by omega) hm).mono ?_
    rintro e w' ⟨he, q, rfl⟩
    exact ⟨he, v, ge, R, h.drewN q, hv.drewN q, h2, h3, by omega, hm, below_drewN' (Below.refl _ _) q⟩
  · obtain ⟨k, rfl⟩ : ∃ k : Nat, m = (k : Int) := ⟨m.toNat, by omega⟩
    rcases hv with ⟨rfl, rfl⟩ | ⟨ga, rfl, _, hga, hc⟩
    · simp at h3
      obtain rfl : ge = 0 := h3
      obtain rfl : gs = 0 := by omega
      exact (reserve27d g k bl bf af w h (by omega) (by omega)).mono fun e w' ⟨he, hg⟩ => ⟨he, aft_of (by omega) hg⟩
    · by_cases hge : ge < R.length
      · exact (reserve27b g ga R.length gs ge k bl bf af R w h rfl h2 hge h4 (by omega) (by omega) hc).mono fun e w' ⟨he, hg⟩ => ⟨he, aft_of (by omega) hg⟩
      · exact (reserve27c g ga R.length gs ge k bl bf af R w h rfl h2 (by omega) h4 (by omega) (by omega) hc).mono fun e w' ⟨he, hg⟩ => ⟨he, aft_of (by omega) hg⟩

set_option maxRecDepth 20000 in
set_option maxHeartbeats 400000 in
theorem reserve24 (g gs ge : Nat) (m bl : Int) (v bf af : Value) (R : List Int) (w : World) (h : Buf w g v gs ge bl bf af) (hv : Cl .i32 w 0 v R) (h2 : gs ≤ ge) (h3 : ge ≤ R.length) (h4 : R.length ≤ 262144) (hm2 : m ≤ 65536) :
    Calls Try.prog 24 #[.pointer (some ⟨g, 0, none⟩), .int .i64 m] w fun e w' => e = .returned (.tuple #[]) ∧ Aft w w' g gs m bl bf af := by
  have HK : Hid (Calls Try.prog 27 #[.pointer (some ⟨g, 0, none⟩), .int .i64 m] w fun e w' => e = .returned (.tuple #[]) ∧ Aft w w' g gs m bl bf af) := reserve27 g gs ge m bl v bf af R w h hv h2 h3 h4 hm2
  clear h hv h2 h3 h4 hm2
  go_enter Try.func24, Try.ntmps24
  go_wp2_with fail
  refine HK.out.mono ?_
  rintro e w1 ⟨rfl, h1⟩
  clear HK
  go_wp2
  go_end0
  exact ⟨rfl, h1⟩

set_option maxRecDepth 20000 in
set_option maxHeartbeats 400000 in
theorem reserve24a (g : Nat) (r : Value) (gs ge bl m : Int) (bf af : Value) (w : World) (h : Buf w g r gs ge bl bf af) (h1 : 0 ≤ gs) (h2 : gs ≤ ge) (h3 : ge ≤ 1000000000) (hm : m ≤ ge - gs) :
    Calls Try.prog 24 #[.pointer (some ⟨g, 0, none⟩), .int .i64 m] w fun e w' => e = .returned (.tuple #[]) ∧ ∃ q, w' = w.drewN q := by
  have HK : Hid (Calls Try.prog 27 #[.pointer (some ⟨g, 0, none⟩), .int .i64 m] w fun e w' => e = .returned (.tuple #[]) ∧ ∃ q, w' = w.drewN q) := reserve27a g r gs ge bl m bf af w h h1 h2 h3 hm
  clear h h1 h2 h3 hm
  go_enter Try.func24, Try.ntmps24
  go_wp2_with fail
  refine HK.out.mono ?_
  rintro e w1 ⟨rfl, h1⟩
  clear HK
  go_wp2
  go_end0
  exact ⟨rfl, h1⟩

end Go.Proofs.Qxb6602056a
