import Derived.Test.Qxb6602056aRes3
import Derived.Test.Qxb6602056aEqs
import Derived.Test.Qxb6602056aCln
namespace Go.Proofs.Qxb6602056a
open Go.RowKit
set_option linter.unusedSimpArgs false

theorem Cl.lt {k : IntKind} {w : World} {base : Nat} {v : Value} {D : List Int} (h : Cl k w base v D) : ∀ g n c, v = .slice (some ⟨g, 0, none⟩) n c → g < w.heap.size := by
  rcases h with ⟨h, _⟩ | ⟨g', h1, _, h3, _⟩
  · intro g n c e; rw [h] at e; cases e
  · intro g n c e; rw [h1] at e; cases e; exact h3

theorem Buf.below {w w' : World} {g : Nat} {r bf af : Value} {gs ge bl : Int} (h : Buf w g r gs ge bl bf af) (hb : Below w.heap.size w w') : Buf w' g r gs ge bl bf af := (hb.block g (lt_of_some h)).trans h

set_option maxRecDepth 20000 in
set_option maxHeartbeats 4000000 in
theorem law5 (p0 : Option Addr) (l0 c0 : Nat) (R : List Int) (gs ge : Nat) (bl : Int) (p4 : Option Addr) (l4 c4 : Nat) (B : List Int) (p5 : Option Addr) (l5 c5 : Nat) (A : List Int) (n m : Int) (w : World)
    (i0 : In .i32 w p0 l0 c0 R) (i4 : In .i64 w p4 l4 c4 B) (i5 : In .i64 w p5 l5 c5 A) (hl : 4 * l0 + 8 * l4 + 8 * l5 ≤ 1048576) (hn : n ≤ 65536) (hm : m ≤ n) (h1 : gs ≤ ge) (h2 : ge ≤ l0) :
    Calls Try.prog 5 #[.slice p0 l0 c0, .int .i64 (gs : Int), .int .i64 (ge : Int), .int .i64 bl, .slice p4 l4 c4, .slice p5 l5 c5, .int .i64 n, .int .i64 m] w fun e w' => e = .returned (.bool true) ∧ Below w.heap.size w w' := by
  have I0 : Hid (In .i32 w p0 l0 c0 R) := i0
  have I4 : Hid (In .i64 w p4 l4 c4 B) := i4
  have I5 : Hid (In .i64 w p5 l5 c5 A) := i5
  have L0 : Hid (l0 = R.length) := i0.len
  have L4 : Hid (l4 = B.length) := i4.len
  have L5 : Hid (l5 = A.length) := i5.len
  have g1 : (gs : Int) ≤ (ge : Int) := by omega
  have g2 : (ge : Int) ≤ (l0 : Int) := by omega
  clear i0 i4 i5
  go_enter Try.func5, Try.ntmps5
  go_wp2_with (first | (go_at_call 23; go_in) | (go_at_call 8; go_in) | (go_at_call 9; go_in))
  · go_ret
    exact ⟨rfl, Below.refl _ _⟩
  refine (clone11 p0 l0 c0 R w I0.out (by omega)).mono ?_
  rintro e w1 ⟨v1, rfl, k1, b1⟩
  have C1 : Hid (Cl .i32 w1 w.heap.size v1 R) := k1
  have B1 : Hid (Below w.heap.size w w1) := b1
  have J4 : Hid (In .i64 w1 p4 l4 c4 B) := I4.out.below b1
  have J5 : Hid (In .i64 w1 p5 l5 c5 A) := I5.out.below b1
  clear k1 b1 I4 I5 I0
  go_wp2_with fail
  refine (clone12 p4 l4 c4 B w1 J4.out (by omega)).mono ?_
  rintro e w2 ⟨v2, rfl, k2, b2⟩
  have C12 : Hid (Cl .i32 w2 w.heap.size v1 R) := C1.out.belowAll b2
  have B2 : Hid (Below w.heap.size w w2) := B1.out.trans (b2.mono B1.out.size)
  have C2 : Hid (Cl .i64 w2 w.heap.size v2 B) := k2.mono B1.out.size
  have K5 : Hid (In .i64 w2 p5 l5 c5 A) := J5.out.below b2
  clear k2 b2 B1 J4 J5 C1
  go_wp2_with fail
  refine (clone12 p5 l5 c5 A w2 K5.out (by omega)).mono ?_
  rintro e w3 ⟨v3, rfl, k3, b3⟩
  have C13 : Hid (Cl .i32 w3 w.heap.size v1 R) := C12.out.belowAll b3
  have C23 : Hid (Cl .i64 w3 w.heap.size v2 B) := C2.out.belowAll b3
  have B3 : Hid (Below w.heap.size w w3) := B2.out.trans (b3.mono B2.out.size)
  have C3 : Hid (Cl .i64 w3 w.heap.size v3 A) := k3.mono B2.out.size
  clear k3 b3 B2 K5 C12 C2
  obtain ⟨q1, d1, rfl, _⟩ := C13.out.inn
  obtain ⟨q2, d2, rfl, _⟩ := C23.out.inn
  obtain ⟨q3, d3, rfl, _⟩ := C3.out.inn
  go_wp2_with fail
  refine (make14 q1 R.length d1 gs ge bl q2 B.length d2 q3 A.length d3 w3).mono ?_
  rintro e w4 ⟨rfl, hbuf, b4⟩
  obtain ⟨g, hg⟩ : ∃ g, g = w3.heap.size := ⟨_, rfl⟩
  rw [← hg] at hbuf ⊢
  have b4' : Below g w3 w4 := hg ▸ b4
  have G : Hid (w.heap.size ≤ g) := hg ▸ B3.out.size
  have U4 : Hid (Buf w4 g (.slice q1 R.length d1) gs ge bl (.slice q2 B.length d2) (.slice q3 A.length d3)) := hbuf
  have C14 : Hid (Cl .i32 w4 0 (.slice q1 R.length d1) R) := (C13.out.belowAll b4).mono (Nat.zero_le _)
  have T2 : Hid (∀ b n c, Value.slice q2 B.length d2 = .slice (some ⟨b, 0, none⟩) n c → b < g) := hg ▸ C23.out.lt
  have T3 : Hid (∀ b n c, Value.slice q3 A.length d3 = .slice (some ⟨b, 0, none⟩) n c → b < g) := hg ▸ C3.out.lt
  have C24 : Hid (Cl .i64 w4 0 (.slice q2 B.length d2) B) := (C23.out.belowAll b4).mono (Nat.zero_le _)
  have C34 : Hid (Cl .i64 w4 0 (.slice q3 A.length d3) A) := (C3.out.belowAll b4).mono (Nat.zero_le _)
  have B4 : Hid (Below w.heap.size w w4) := B3.out.trans (b4.mono B3.out.size)
  clear hbuf b4 b4' hg B3 C13 C23 C3
  go_wp2_with fail
  refine (reserve24 g gs ge n bl _ _ _ R w4 U4.out C14.out h1 (by rw [← L0.out]; exact h2) (by rw [← L0.out]; omega) hn).mono ?_
  rintro e w5 ⟨rfl, v5, E, Q, hb5, hc5, he1, he2, he3, he4, b5⟩
  have U5 : Hid (Buf w5 g v5 gs E bl (.slice q2 B.length d2) (.slice q3 A.length d3)) := hb5
  have C15 : Hid (Cl .i32 w5 0 v5 Q) := hc5
  have C25 : Hid (Cl .i64 w5 0 (.slice q2 B.length d2) B) := C24.out.below b5 T2.out
  have C35 : Hid (Cl .i64 w5 0 (.slice q3 A.length d3) A) := C34.out.below b5 T3.out
  have B5 : Hid (Below w.heap.size w w5) := B4.out.trans (b5.mono G.out)
  have E2 : Hid (E ≤ Q.length) := he2
  have E3 : Hid (Q.length ≤ 10000000) := he3
  have E4 : Hid (n ≤ (E : Int) - (gs : Int)) := he4
  have E1 : Hid (gs ≤ E) := he1
  clear hb5 hc5 he1 he2 he3 he4 b5 B4 U4 C14 C24 C34 T2 T3
  obtain ⟨q5, d5, rfl, j5⟩ := C15.out.inn
  obtain ⟨q2', d2', e2, j2⟩ := C25.out.inn
  obtain ⟨rfl, -, rfl⟩ : q2 = q2' ∧ True ∧ d2 = d2' := by injection e2 with a b c; exact ⟨a, trivial, c⟩
  obtain ⟨q3', d3', e3, j3⟩ := C35.out.inn
  obtain ⟨rfl, -, rfl⟩ : q3 = q3' ∧ True ∧ d3 = d3' := by injection e3 with a b c; exact ⟨a, trivial, c⟩
  have N1 : Hid (In .i32 w5 q5 Q.length d5 Q) := j5
  have N2 : Hid (In .i64 w5 q2 B.length d2 B) := j2
  have N3 : Hid (In .i64 w5 q3 A.length d3 A) := j3
  clear j5 j2 j3 e2 e3 C15 C25 C35
  go_wp2_with fail
  refine (fields16 g q5 Q.length d5 gs E bl q2 B.length d2 q3 A.length d3 w5 U5.out).mono ?_
  rintro e w6 ⟨rfl, q, rfl⟩
  have b6 : Below w5.heap.size w5 (w5.drewN q) := below_drewN' (Below.refl _ _) q
  have U6 : Hid (Buf (w5.drewN q) g (.slice q5 Q.length d5) gs E bl (.slice q2 B.length d2) (.slice q3 A.length d3)) := U5.out.drewN q
  have M1 : Hid (In .i32 (w5.drewN q) q5 Q.length d5 Q) := N1.out.below b6
  have M2 : Hid (In .i64 (w5.drewN q) q2 B.length d2 B) := N2.out.below b6
  have M3 : Hid (In .i64 (w5.drewN q) q3 A.length d3 A) := N3.out.below b6
  have B6 : Hid (Below w.heap.size w (w5.drewN q)) := below_drewN' B5.out q
  clear b6 U5 N1 N2 N3 B5
  generalize w5.drewN q = w6 at U6 M1 M2 M3 B6 ⊢
  go_wp2_with fail
  refine (clone11b q5 Q.length d5 Q w6 M1.out E3.out).mono ?_
  rintro e w7 ⟨v7, rfl, k7, b7⟩
  have U7 : Hid (Buf w7 g (.slice q5 Q.length d5) gs E bl (.slice q2 B.length d2) (.slice q3 A.length d3)) := U6.out.below b7
  have N1 : Hid (In .i32 w7 q5 Q.length d5 Q) := M1.out.below b7
  have N2 : Hid (In .i64 w7 q2 B.length d2 B) := M2.out.below b7
  have N3 : Hid (In .i64 w7 q3 A.length d3 A) := M3.out.below b7
  have V1 : Hid (Cl .i32 w7 0 v7 Q) := k7.mono (Nat.zero_le _)
  have B7 : Hid (Below w.heap.size w w7) := B6.out.trans (b7.mono B6.out.size)
  clear k7 b7 U6 M1 M2 M3 B6
  go_wp2_with fail
  refine (clone12 q2 B.length d2 B w7 N2.out (by rw [← L4.out]; omega)).mono ?_
  rintro e w8 ⟨v8, rfl, k8, b8⟩
  have U8 : Hid (Buf w8 g (.slice q5 Q.length d5) gs E bl (.slice q2 B.length d2) (.slice q3 A.length d3)) := U7.out.below b8
  have M1 : Hid (In .i32 w8 q5 Q.length d5 Q) := N1.out.below b8
  have M2 : Hid (In .i64 w8 q2 B.length d2 B) := N2.out.below b8
  have M3 : Hid (In .i64 w8 q3 A.length d3 A) := N3.out.below b8
  have V18 : Hid (Cl .i32 w8 0 v7 Q) := V1.out.belowAll b8
  have V2 : Hid (Cl .i64 w8 0 v8 B) := k8.mono (Nat.zero_le _)
  have B8 : Hid (Below w.heap.size w w8) := B7.out.trans (b8.mono B7.out.size)
  clear k8 b8 U7 N1 N2 N3 B7 V1
  go_wp2_with fail
  refine (clone12 q3 A.length d3 A w8 M3.out (by rw [← L5.out]; omega)).mono ?_
  rintro e w9 ⟨v9, rfl, k9, b9⟩
  have U9 : Hid (Buf w9 g (.slice q5 Q.length d5) gs E bl (.slice q2 B.length d2) (.slice q3 A.length d3)) := U8.out.below b9
  have N1 : Hid (In .i32 w9 q5 Q.length d5 Q) := M1.out.below b9
  have N2 : Hid (In .i64 w9 q2 B.length d2 B) := M2.out.below b9
  have N3 : Hid (In .i64 w9 q3 A.length d3 A) := M3.out.below b9
  have V1 : Hid (Cl .i32 w9 0 v7 Q) := V18.out.belowAll b9
  have V29 : Hid (Cl .i64 w9 0 v8 B) := V2.out.belowAll b9
  have V3 : Hid (Cl .i64 w9 0 v9 A) := k9.mono (Nat.zero_le _)
  have B9 : Hid (Below w.heap.size w w9) := B8.out.trans (b9.mono B8.out.size)
  clear k9 b9 U8 M1 M2 M3 B8 V18 V2
  obtain ⟨x1, y1, rfl, j1⟩ := V1.out.inn
  obtain ⟨x2, y2, rfl, j2⟩ := V29.out.inn
  obtain ⟨x3, y3, rfl, j3⟩ := V3.out.inn
  have O1 : Hid (In .i32 w9 x1 Q.length y1 Q) := j1
  have O2 : Hid (In .i64 w9 x2 B.length y2 B) := j2
  have O3 : Hid (In .i64 w9 x3 A.length y3 A) := j3
  clear j1 j2 j3 V1 V29 V3
  go_wp2_with fail
  refine (reserve24a g _ gs E bl m _ _ w9 U9.out (by omega) (by have := E1.out; omega) (by have := E2.out; have := E3.out; omega) (by have := E4.out; omega)).mono ?_
  rintro e w10 ⟨rfl, qa, rfl⟩
  go_wp2_with fail
  refine (fields16 g q5 Q.length d5 gs E bl q2 B.length d2 q3 A.length d3 (w9.drewN qa) (U9.out.drewN qa)).mono ?_
  rintro e w11 ⟨rfl, qb, rfl⟩
  have b6 : Below w9.heap.size w9 ((w9.drewN qa).drewN qb) := below_drewN' (below_drewN' (Below.refl _ _) qa) qb
  have M1 : Hid (In .i32 ((w9.drewN qa).drewN qb) q5 Q.length d5 Q) := N1.out.below b6
  have M2 : Hid (In .i64 ((w9.drewN qa).drewN qb) q2 B.length d2 B) := N2.out.below b6
  have M3 : Hid (In .i64 ((w9.drewN qa).drewN qb) q3 A.length d3 A) := N3.out.below b6
  have P1 : Hid (In .i32 ((w9.drewN qa).drewN qb) x1 Q.length y1 Q) := O1.out.below b6
  have P2 : Hid (In .i64 ((w9.drewN qa).drewN qb) x2 B.length y2 B) := O2.out.below b6
  have P3 : Hid (In .i64 ((w9.drewN qa).drewN qb) x3 A.length y3 A) := O3.out.below b6
  have B10 : Hid (Below w.heap.size w ((w9.drewN qa).drewN qb)) := below_drewN' (below_drewN' B9.out qa) qb
  clear b6 U9 N1 N2 N3 O1 O2 O3 B9
  generalize (w9.drewN qa).drewN qb = wa at M1 M2 M3 P1 P2 P3 B10 ⊢
  go_wp2_with fail
  refine (eq17 q5 x1 Q.length d5 Q.length y1 Q Q true (by simp) wa M1.out P1.out (by have := E3.out; omega) (by have := E3.out; omega)).mono ?_
  rintro e wb ⟨rfl, qc, rfl⟩
  have b6 : Below wa.heap.size wa (wa.drewN qc) := below_drewN' (Below.refl _ _) qc
  have N2 : Hid (In .i64 (wa.drewN qc) q2 B.length d2 B) := M2.out.below b6
  have N3 : Hid (In .i64 (wa.drewN qc) q3 A.length d3 A) := M3.out.below b6
  have O2 : Hid (In .i64 (wa.drewN qc) x2 B.length y2 B) := P2.out.below b6
  have O3 : Hid (In .i64 (wa.drewN qc) x3 A.length y3 A) := P3.out.below b6
  have B11 : Hid (Below w.heap.size w (wa.drewN qc)) := below_drewN' B10.out qc
  clear b6 M1 M2 M3 P1 P2 P3 B10
  generalize wa.drewN qc = wc at N2 N3 O2 O3 B11 ⊢
  go_wp2_with fail
  refine (eq18 q2 x2 B.length d2 B.length y2 B B true (by simp) wc N2.out O2.out (by rw [← L4.out]; omega) (by rw [← L4.out]; omega)).mono ?_
  rintro e wd ⟨rfl, qd, rfl⟩
  have b6 : Below wc.heap.size wc (wc.drewN qd) := below_drewN' (Below.refl _ _) qd
  have M3 : Hid (In .i64 (wc.drewN qd) q3 A.length d3 A) := N3.out.below b6
  have P3 : Hid (In .i64 (wc.drewN qd) x3 A.length y3 A) := O3.out.below b6
  have B12 : Hid (Below w.heap.size w (wc.drewN qd)) := below_drewN' B11.out qd
  clear b6 N2 N3 O2 O3 B11
  generalize wc.drewN qd = we at M3 P3 B12 ⊢
  go_wp2_with fail
  refine (eq18 q3 x3 A.length d3 A.length y3 A A true (by simp) we M3.out P3.out (by rw [← L5.out]; omega) (by rw [← L5.out]; omega)).mono ?_
  rintro e wf ⟨rfl, qe, rfl⟩
  have B13 : Hid (Below w.heap.size w (we.drewN qe)) := below_drewN' B12.out qe
  clear M3 P3 B12
  generalize we.drewN qe = wg at B13 ⊢
  go_wp2_with fail
  go_ret
  exact ⟨rfl, B13.out⟩
end Go.Proofs.Qxb6602056a
