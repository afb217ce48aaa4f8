import Derived.Test.Qxb6602056aLin
namespace Go.Proofs.Qxb6602056a
open Go.RowKit
set_option linter.unusedSimpArgs false

set_option maxRecDepth 20000 in
set_option maxHeartbeats 1000000 in
theorem same22 (gx gy : Nat) (p p' : Option Addr) (n c c' : Nat) (R R' : List Int) (gs ge : Nat) (bl : Int) (p1 p1' : Option Addr) (n1 c1 c1' : Nat) (B : List Int) (p2 p2' : Option Addr) (n2 c2 c2' : Nat) (A : List Int) (w : World)
    (hx : Buf w gx (.slice p n c) gs ge bl (.slice p1 n1 c1) (.slice p2 n2 c2)) (hy : Buf w gy (.slice p' n c') gs ge bl (.slice p1' n1 c1') (.slice p2' n2 c2'))
    (i : In .i32 w p n c R) (i' : In .i32 w p' n c' R') (i1 : In .i64 w p1 n1 c1 B) (i1' : In .i64 w p1' n1 c1' B) (i2 : In .i64 w p2 n2 c2 A) (i2' : In .i64 w p2' n2 c2' A)
    (hn : n ≤ 1000000) (hn1 : n1 ≤ 1000000) (hn2 : n2 ≤ 1000000) (h1 : gs ≤ ge) (h2 : ge ≤ n) (ht : txt R gs ge = txt R' gs ge) :
    Calls Try.prog 22 #[.pointer (some ⟨gx, 0, none⟩), .pointer (some ⟨gy, 0, none⟩)] w fun e w' => e = .returned (.bool true) ∧ Below w.heap.size w w' := by
  have X : Hid (Buf w gx (.slice p n c) gs ge bl (.slice p1 n1 c1) (.slice p2 n2 c2)) := hx
  have Y : Hid (Buf w gy (.slice p' n c') gs ge bl (.slice p1' n1 c1') (.slice p2' n2 c2')) := hy
  have I : Hid (In .i32 w p n c R ∧ In .i32 w p' n c' R' ∧ In .i64 w p1 n1 c1 B ∧ In .i64 w p1' n1 c1' B ∧ In .i64 w p2 n2 c2 A ∧ In .i64 w p2' n2 c2' A) := ⟨i, i', i1, i1', i2, i2'⟩
  have HT : Hid (txt R gs ge = txt R' gs ge) := ht
  have HL : Hid (n = R.length) := i.len
  have g1 : (gs : Int) ≤ (ge : Int) := by omega
  have g2 : (ge : Int) ≤ (n : Int) := by omega
  clear hx hy i i' i1 i1' i2 i2' ht
  go_enter Try.func22, Try.ntmps22
  go_wp2_with fail
  refine (fields16 gx p n c gs ge bl p1 n1 c1 p2 n2 c2 w X.out).mono ?_
  rintro e w' ⟨rfl, qa, rfl⟩
  go_wp2_with fail
  refine (fields16 gy p' n c' gs ge bl p1' n1 c1' p2' n2 c2' (w.drewN qa) (Y.out.drewN qa)).mono ?_
  rintro e w' ⟨rfl, qb, rfl⟩
  have b6 : Below w.heap.size w ((w.drewN qa).drewN qb) := below_drewN' (below_drewN' (Below.refl _ _) qa) qb
  have B6 : Hid (Below w.heap.size w ((w.drewN qa).drewN qb)) := b6
  have J : Hid (In .i32 ((w.drewN qa).drewN qb) p n c R ∧ In .i32 ((w.drewN qa).drewN qb) p' n c' R' ∧ In .i64 ((w.drewN qa).drewN qb) p1 n1 c1 B ∧ In .i64 ((w.drewN qa).drewN qb) p1' n1 c1' B ∧ In .i64 ((w.drewN qa).drewN qb) p2 n2 c2 A ∧ In .i64 ((w.drewN qa).drewN qb) p2' n2 c2' A) := ⟨I.out.1.below b6, I.out.2.1.below b6, I.out.2.2.1.below b6, I.out.2.2.2.1.below b6, I.out.2.2.2.2.1.below b6, I.out.2.2.2.2.2.below b6⟩
  clear b6 X Y I
  generalize (w.drewN qa).drewN qb = w1 at B6 J ⊢
  go_wp2_with (go_at_call 9; go_in)
  refine (text13 p n c R gs ge w1 J.out.1 (by omega) h1 h2).mono ?_
  rintro e w2 ⟨v2, rfl, ho, b2⟩
  obtain ⟨T, hT⟩ : ∃ T, T = txt R gs ge := ⟨_, rfl⟩
  have ho2 : Own .i32 21 w2 w1.heap.size v2 T := hT ▸ ho
  have HTl : Hid (T.length ≤ 1000000) := by show _ ≤ _; rw [hT, txt_len _ _ _ h1 (by have := HL.out; omega), ← HL.out]; omega
  have HT' : Hid (T = txt R' gs ge) := by show _ = _; rw [hT, HT.out]
  obtain ⟨q2, d2, rfl, j2⟩ := ho2.slice
  have J2 : Hid (In .i32 w2 q2 T.length d2 T ∧ In .i32 w2 p' n c' R' ∧ In .i64 w2 p1 n1 c1 B ∧ In .i64 w2 p1' n1 c1' B ∧ In .i64 w2 p2 n2 c2 A ∧ In .i64 w2 p2' n2 c2' A) := ⟨j2, J.out.2.1.below b2, J.out.2.2.1.below b2, J.out.2.2.2.1.below b2, J.out.2.2.2.2.1.below b2, J.out.2.2.2.2.2.below b2⟩
  have B2 : Hid (Below w.heap.size w w2) := B6.out.trans (b2.mono B6.out.size)
  clear ho ho2 hT j2 b2 B6 J HT
  go_wp2_with fail
  refine (text13 p' n c' R' gs ge w2 J2.out.2.1 (by omega) h1 h2).mono ?_
  rintro e w3 ⟨v3, rfl, ho, b3⟩
  have ho3 : Own .i32 21 w3 w2.heap.size v3 T := HT'.out ▸ ho
  obtain ⟨q3, d3, rfl, j3⟩ := ho3.slice
  have J3 : Hid (In .i32 w3 q2 T.length d2 T ∧ In .i32 w3 q3 T.length d3 T ∧ In .i64 w3 p1 n1 c1 B ∧ In .i64 w3 p1' n1 c1' B ∧ In .i64 w3 p2 n2 c2 A ∧ In .i64 w3 p2' n2 c2' A) := ⟨J2.out.1.below b3, j3, J2.out.2.2.1.below b3, J2.out.2.2.2.1.below b3, J2.out.2.2.2.2.1.below b3, J2.out.2.2.2.2.2.below b3⟩
  have B3 : Hid (Below w.heap.size w w3) := B2.out.trans (b3.mono B2.out.size)
  clear ho ho3 j3 b3 B2 J2
  go_wp2_with fail
  refine (eq17 q2 q3 T.length d2 T.length d3 T T true (by simp) w3 J3.out.1 J3.out.2.1 (by have := HTl.out; omega) (by have := HTl.out; omega)).mono ?_
  rintro e w' ⟨rfl, qc, rfl⟩
  have b4 : Below w3.heap.size w3 (w3.drewN qc) := below_drewN' (Below.refl _ _) qc
  have J4 : Hid (In .i64 (w3.drewN qc) p1 n1 c1 B ∧ In .i64 (w3.drewN qc) p1' n1 c1' B ∧ In .i64 (w3.drewN qc) p2 n2 c2 A ∧ In .i64 (w3.drewN qc) p2' n2 c2' A) := ⟨J3.out.2.2.1.below b4, J3.out.2.2.2.1.below b4, J3.out.2.2.2.2.1.below b4, J3.out.2.2.2.2.2.below b4⟩
  have B4 : Hid (Below w.heap.size w (w3.drewN qc)) := below_drewN' B3.out qc
  clear b4 B3 J3
  generalize w3.drewN qc = w4 at B4 J4 ⊢
  go_wp2_with fail
  refine (eq18 p1 p1' n1 c1 n1 c1' B B true (by simp) w4 J4.out.1 J4.out.2.1 (by omega) (by omega)).mono ?_
  rintro e w' ⟨rfl, qd, rfl⟩
  have b5 : Below w4.heap.size w4 (w4.drewN qd) := below_drewN' (Below.refl _ _) qd
  have J5 : Hid (In .i64 (w4.drewN qd) p2 n2 c2 A ∧ In .i64 (w4.drewN qd) p2' n2 c2' A) := ⟨J4.out.2.2.1.below b5, J4.out.2.2.2.below b5⟩
  have B5 : Hid (Below w.heap.size w (w4.drewN qd)) := below_drewN' B4.out qd
  clear b5 B4 J4
  generalize w4.drewN qd = w5 at B5 J5 ⊢
  go_wp2_with fail
  refine (eq18 p2 p2' n2 c2 n2 c2' A A true (by simp) w5 J5.out.1 J5.out.2 (by omega) (by omega)).mono ?_
  rintro e w' ⟨rfl, qe, rfl⟩
  have B7 : Hid (Below w.heap.size w (w5.drewN qe)) := below_drewN' B5.out qe
  clear B5 J5
  generalize w5.drewN qe = w6 at B7 ⊢
  go_wp2_with fail
  go_ret
  exact ⟨rfl, B7.out⟩
end Go.Proofs.Qxb6602056a
