import Derived.Test.Qxb6602056aTxt
namespace Go.Proofs.Qxb6602056a
open Go.RowKit
set_option linter.unusedSimpArgs false

/-- The text beside the gap. -/
def txt (R : List Int) (gs ge : Nat) : List Int := R.take gs ++ R.drop ge
theorem txt_len (R : List Int) (gs ge : Nat) (h : gs ≤ ge) (h2 : ge ≤ R.length) : (txt R gs ge).length = R.length - (ge - gs) := by simp [txt]; omega

set_option maxRecDepth 20000 in
set_option maxHeartbeats 1000000 in
theorem lines10 (p0 : Option Addr) (n c : Nat) (R : List Int) (gs ge : Nat) (p1 : Option Addr) (n1 c1 : Nat) (B : List Int) (p2 : Option Addr) (n2 c2 : Nat) (A : List Int) (w : World) (i : In .i32 w p0 n c R) (i1 : In .i64 w p1 n1 c1 B) (i2 : In .i64 w p2 n2 c2 A) (hn : n ≤ 1000000) (hn1 : n1 ≤ 1000000) (hn2 : n2 ≤ 1000000) (h1 : gs ≤ ge) (h2 : ge ≤ n) :
    Calls Try.prog 10 #[.slice p0 n c, .int .i64 (gs : Int), .int .i64 (ge : Int), .slice p1 n1 c1, .slice p2 n2 c2] w fun e w' => ∃ r : Bool, e = .returned (.bool r) ∧ (r = true ↔ B = NB (txt R gs ge) gs ∧ A = NU (txt R gs ge) ((txt R gs ge).length - gs)) ∧ Below w.heap.size w w' := by
  have I0 : Hid (In .i32 w p0 n c R) := i
  have I1 : Hid (In .i64 w p1 n1 c1 B) := i1
  have I2 : Hid (In .i64 w p2 n2 c2 A) := i2
  have L : Hid (n = R.length) := i.len
  clear i i1 i2
  obtain ⟨T, hT⟩ : ∃ T, T = txt R gs ge := ⟨_, rfl⟩
  rw [← hT]
  have HT : Hid (T = txt R gs ge) := hT
  have HTl : Hid (T.length = n - (ge - gs)) := by show _ = _; rw [hT, txt_len _ _ _ h1 (by have := L.out; omega), ← L.out]
  clear hT
  go_enter Try.func10, Try.ntmps10
  go_wp2_with fail
  refine (text13 p0 n c R gs ge w I0.out (by omega) h1 h2).mono ?_
  rintro e w1 ⟨v, rfl, ho, b1⟩
  have ho' : Own .i32 21 w1 w.heap.size v T := HT.out ▸ ho
  obtain ⟨q1, d1, rfl, j1⟩ := ho'.slice
  have J1 : Hid (In .i32 w1 q1 T.length d1 T) := j1
  have J2 : Hid (In .i64 w1 p1 n1 c1 B) := I1.out.below b1
  have J3 : Hid (In .i64 w1 p2 n2 c2 A) := I2.out.below b1
  have B1 : Hid (Below w.heap.size w w1) := b1
  clear ho ho' j1 b1 I0 I1 I2
  go_wp2_with fail
  refine (nb19 q1 T.length d1 T gs w1 J1.out (by have := HTl.out; omega) (by have := HTl.out; omega)).mono ?_
  rintro e w2 ⟨v2, rfl, ho, b2⟩
  obtain ⟨q2, d2, rfl, j2⟩ := ho.slice
  have K1 : Hid (In .i32 w2 q1 T.length d1 T) := J1.out.below b2
  have K2 : Hid (In .i64 w2 p1 n1 c1 B) := J2.out.below b2
  have K3 : Hid (In .i64 w2 p2 n2 c2 A) := J3.out.below b2
  have K4 : Hid (In .i64 w2 q2 (NB T gs).length d2 (NB T gs)) := j2
  have B2 : Hid (Below w.heap.size w w2) := B1.out.trans (b2.mono B1.out.size)
  clear ho j2 b2 J1 J2 J3 B1
  go_wp2_with fail
  refine (eq18 p1 q2 n1 c1 (NB T gs).length d2 B (NB T gs) (decide (B = NB T gs)) (by simp) w2 K2.out K4.out (by omega) (by have := NB_le T gs; omega)).mono ?_
  rintro e w3 ⟨rfl, q, rfl⟩
  have b3 : Below w2.heap.size w2 (w2.drewN q) := below_drewN' (Below.refl _ _) q
  have J1 : Hid (In .i32 (w2.drewN q) q1 T.length d1 T) := K1.out.below b3
  have J3 : Hid (In .i64 (w2.drewN q) p2 n2 c2 A) := K3.out.below b3
  have B3 : Hid (Below w.heap.size w (w2.drewN q)) := below_drewN' B2.out q
  clear b3 K1 K2 K3 K4 B2
  generalize w2.drewN q = w4 at J1 J3 B3 ⊢
  by_cases hB : B = NB T gs
  · have hd : decide (B = NB T gs) = true := by simp [hB]
    rw [hd]
    go_wp2_with fail
    refine (na20 q1 T.length d1 T gs w4 J1.out (by have := HTl.out; omega) (by have := HTl.out; omega)).mono ?_
    rintro e w5 ⟨v5, rfl, ho, b5⟩
    obtain ⟨q5, d5, rfl, j5⟩ := ho.slice
    have K3 : Hid (In .i64 w5 p2 n2 c2 A) := J3.out.below b5
    have K4 : Hid (In .i64 w5 q5 (NU T (T.length - gs)).length d5 (NU T (T.length - gs))) := j5
    have B5 : Hid (Below w.heap.size w w5) := B3.out.trans (b5.mono B3.out.size)
    clear ho j5 b5 J1 J3 B3
    go_wp2_with fail
    refine (eq18 p2 q5 n2 c2 (NU T (T.length - gs)).length d5 A (NU T (T.length - gs)) (decide (A = NU T (T.length - gs))) (by simp) w5 K3.out K4.out (by omega) (by have := NU_le T (T.length - gs); have := HTl.out; omega)).mono ?_
    rintro e w6 ⟨rfl, q', rfl⟩
    obtain ⟨r, hr⟩ : ∃ r, r = decide (A = NU T (T.length - gs)) := ⟨_, rfl⟩
    rw [← hr]
    have HR : Hid (r = decide (A = NU T (T.length - gs))) := hr
    clear hr
    go_wp2_with fail
    go_ret
    exact ⟨r, rfl, by rw [HR.out]; simp [hB], below_drewN' B5.out q'⟩
  · have hd : decide (B = NB T gs) = false := by simp [hB]
    rw [hd]
    go_wp2_with fail
    go_ret
    exact ⟨false, rfl, by simp [hB], B3.out⟩
end Go.Proofs.Qxb6602056a
