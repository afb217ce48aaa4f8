import Derived.Test.Qxb6602056aMvc
namespace Go.Proofs.Qxb6602056a
open Go.RowKit
set_option linter.unusedSimpArgs false

theorem Own.below {k : IntKind} {e : TypeId} {w w' : World} {base : Nat} {v : Value} {D : List Int} (h : Own k e w base v D) (hb : Below w.heap.size w w') : Own k e w' base v D := h.of_block fun b h1 => hb.block b (h.base_le b h1)
theorem Own.mono {k : IntKind} {e : TypeId} {w : World} {base b' : Nat} {v : Value} {D : List Int} (h : Own k e w base v D) (hb : b' ≤ base) : Own k e w b' v D := by
  refine ⟨h.1, ?_⟩
  rcases h.2 with h1 | ⟨g, cap, cur, hv, h1, h2⟩
  · exact .inl h1
  · exact .inr ⟨g, cap, cur, hv, by omega, h2⟩
/-- Where an owned row lies. -/
def Rg (v : Value) (lo hi : Nat) : Prop := ∀ k, v.ownBlock = some k → lo ≤ k ∧ k < hi
theorem st_make {w w' : World} {base g : Nat} {bl : Int} {T R : List Int} {n gs ge : Nat} {v1 v2 v3 : Value} (hg : g = w.heap.size) (hb : Buf w' g v1 gs ge bl v2 v3) (hbel : Below w.heap.size w w') (o1 : Own .i32 21 w base v1 R) (o2 : Own .i64 3 w base v2 (NB T gs)) (o3 : Own .i64 3 w base v3 (NU T (T.length - gs)))
    (hn : n = R.length) (h1 : gs ≤ ge) (h2 : ge ≤ n) (hT : T = txt R gs ge) (hbase : base ≤ w.heap.size) {a b c d : Nat} (r1 : Rg v1 a b) (r2 : Rg v2 b c) (r3 : Rg v3 c d) (hbc : b ≤ c) : St w' base g bl T n gs v1 v2 v3 R := by
  have hl : T.length = n - (ge - gs) := by rw [hT, hn]; exact txt_len R gs ge h1 (by omega)
  have e : gs + (n - T.length) = ge := by omega
  subst hg
  refine ⟨hn, by omega, by omega, ?_, o1.below hbel, ?_, o2.below hbel, o3.below hbel, hbase, fun hh => ?_, fun hh => ?_, fun hh => ?_, fun k hk => ⟨fun hh => ?_, fun hh => ?_⟩, fun k hk hh => ?_⟩
  · rw [e]; exact hb
  · rw [e]; exact hT.symm
  · exact Nat.lt_irrefl _ (o1.base_le _ hh)
  · exact Nat.lt_irrefl _ (o2.base_le _ hh)
  · exact Nat.lt_irrefl _ (o3.base_le _ hh)
  · have := r1 k hk; have := r2 k hh; omega
  · have := r1 k hk; have := r3 k hh; omega
  · have := r2 k hk; have := r3 k hh; omega
theorem St.below {w w' : World} {base g : Nat} {bl : Int} {T : List Int} {n p : Nat} {vr vb va : Value} {R : List Int} (h : St w base g bl T n p vr vb va R) (hb : Below w.heap.size w w') : St w' base g bl T n p vr vb va R :=
  h.fr (S := fun _ => False) (Fr.of_below hb fun _ hk _ => hk) fun _ _ hh => hh
theorem St.mine_lt {w : World} {base g : Nat} {bl : Int} {T : List Int} {n p : Nat} {vr vb va : Value} {R : List Int} (h : St w base g bl T n p vr vb va R) : ∀ k, Mine g vr vb va k → k < w.heap.size := by
  intro k hk
  rcases hk with hk | hk | hk | hk
  · exact hk ▸ h.buf.lt
  · exact h.r.base_le k hk
  · exact h.b.base_le k hk
  · exact h.a.base_le k hk
theorem St.same {w : World} {b1 b2 g1 g2 : Nat} {bl : Int} {T : List Int} {n q : Nat} {vr vb va vr' vb' va' : Value} {R R' : List Int} (h : St w b1 g1 bl T n q vr vb va R) (h' : St w b2 g2 bl T n q vr' vb' va' R') (hn : n ≤ 1000000) :
    Calls Try.prog 22 #[.pointer (some ⟨g1, 0, none⟩), .pointer (some ⟨g2, 0, none⟩)] w fun e w' => e = .returned (.bool true) ∧ Below w.heap.size w w' := by
  obtain ⟨p, c, rfl, i⟩ := h.r.slice
  obtain ⟨p1, c1, rfl, i1⟩ := h.b.slice
  obtain ⟨p2, c2, rfl, i2⟩ := h.a.slice
  obtain ⟨p', c', rfl, i'⟩ := h'.r.slice
  obtain ⟨p1', c1', rfl, i1'⟩ := h'.b.slice
  obtain ⟨p2', c2', rfl, i2'⟩ := h'.a.slice
  have e1 := h.len
  have e2 := h'.len
  have e3 := h.ple
  have e4 := h.tle
  have hx := h.buf
  have hy := h'.buf
  rw [← e1] at hx i
  rw [← e2] at hy i'
  have a1 := NB_le T q
  have a2 := NU_le T (T.length - q)
  exact same22 g1 g2 p p' n c c' R R' q (q + (n - T.length)) bl p1 p1' _ c1 c1' (NB T q) p2 p2' _ c2 c2' (NU T (T.length - q)) w hx hy i i' i1 i1' i2 i2' hn (by omega) (by omega) (by omega) (by omega) (h.t.trans h'.t.symm)
theorem In.inb {k : IntKind} {e : TypeId} {w : World} {base : Nat} {p : Option Addr} {n c : Nat} {D : List Int} (h : Own k e w base (.slice p n c) D) : In k w p n c D := by
  obtain ⟨p', c', e, i⟩ := h.slice
  injection e with e1 e2 e3
  subst e1 e3
  rw [e2]
  exact i

set_option maxRecDepth 20000 in
set_option maxHeartbeats 4000000 in
theorem law4 (p0 : Option Addr) (l0 c0 : Nat) (R : List Int) (gs ge : Nat) (bl : Int) (p4 : Option Addr) (l4 c4 : Nat) (B : List Int) (p5 : Option Addr) (l5 c5 : Nat) (A : List Int) (p q : Nat) (w : World)
    (i0 : In .i32 w p0 l0 c0 R) (i4 : In .i64 w p4 l4 c4 B) (i5 : In .i64 w p5 l5 c5 A) (hl : 4 * l0 + 8 * l4 + 8 * l5 ≤ 1048576) (h1 : gs ≤ ge) (h2 : ge ≤ l0) (hp : p ≤ l0 - (ge - gs)) (hq : q ≤ l0 - (ge - gs)) :
    Calls Try.prog 4 #[.slice p0 l0 c0, .int .i64 (gs : Int), .int .i64 (ge : Int), .int .i64 bl, .slice p4 l4 c4, .slice p5 l5 c5, .int .i64 (p : Int), .int .i64 (q : Int)] w fun e w' => e = .returned (.bool true) ∧ Below w.heap.size w w' := by
  have I0 : Hid (In .i32 w p0 l0 c0 R) := i0
  have I4 : Hid (In .i64 w p4 l4 c4 B) := i4
  have I5 : Hid (In .i64 w p5 l5 c5 A) := i5
  have L0 : Hid (l0 = R.length) := i0.len
  have L4 : Hid (l4 = B.length) := i4.len
  have L5 : Hid (l5 = A.length) := i5.len
  have g1 : (gs : Int) ≤ (ge : Int) := by omega
  have g2 : (ge : Int) ≤ (l0 : Int) := by omega
  have g3 : 4 * (l0 : Int) + 8 * (l4 : Int) + 8 * (l5 : Int) ≤ 1048576 := by omega
  obtain ⟨N, hN⟩ : ∃ N : Nat, N = l0 - (ge - gs) := ⟨_, rfl⟩
  have g4 : (l0 : Int) - ((ge : Int) - (gs : Int)) = (N : Int) := by omega
  have g5 : IntKind.i64.wrap (N : Int) = N := by rw [IntKind.wrap_i64]; omega
  have g6 : (p : Int) ≤ (N : Int) := by omega
  have g7 : (q : Int) ≤ (N : Int) := by omega
  have HN : Hid (N = l0 - (ge - gs)) := hN
  clear i0 i4 i5 hN
  go_enter Try.func4, Try.ntmps4
  go_wp2_with (first | (go_at_call 21; go_in) | (go_at_call 8; go_in) | (go_at_call 9; go_in))
  refine (lines10 p0 l0 c0 R gs ge p4 l4 c4 B p5 l5 c5 A w I0.out I4.out I5.out (by omega) (by omega) (by omega) h1 h2).mono ?_
  rintro e wl ⟨r, rfl, hr, bl0⟩
  have HR : Hid (r = true ↔ B = NB (txt R gs ge) gs ∧ A = NU (txt R gs ge) ((txt R gs ge).length - gs)) := hr
  have B0 : Hid (Below w.heap.size w wl) := bl0
  clear hr bl0
  cases r with
  | false =>
    go_wp2
    go_ret
    exact ⟨rfl, B0.out⟩
  | true =>
  obtain ⟨T, hT⟩ : ∃ T, T = txt R gs ge := ⟨_, rfl⟩
  obtain ⟨hB, hA⟩ := HR.out.1 rfl
  rw [← hT] at hB hA
  have HB : Hid (B = NB T gs) := hB
  have HA : Hid (A = NU T (T.length - gs)) := hA
  have HT : Hid (T = txt R gs ge) := hT
  have HTl : Hid (T.length = N) := by show _ = _; rw [hT, txt_len R gs ge h1 (by rw [← L0.out]; exact h2), HN.out, L0.out]
  have J0 : Hid (In .i32 wl p0 l0 c0 R) := I0.out.below B0.out
  have J4 : Hid (In .i64 wl p4 l4 c4 B) := I4.out.below B0.out
  have J5 : Hid (In .i64 wl p5 l5 c5 A) := I5.out.below B0.out
  clear hB hA hT HR I0 I4 I5
  go_wp2_with fail
  refine (own11 p0 l0 c0 R wl J0.out (by omega)).mono ?_
  rintro e w1 ⟨v1, rfl, k1, b1⟩
  have O1 : Hid (Own .i32 21 w1 w.heap.size v1 R) := k1.mono B0.out.size
  have R1 : Hid (Rg v1 wl.heap.size w1.heap.size) := fun k hk => k1.lt k hk
  have B1 : Hid (Below w.heap.size w w1) := B0.out.trans (b1.mono B0.out.size)
  have M1 : Hid (w.heap.size ≤ wl.heap.size ∧ wl.heap.size ≤ w1.heap.size) := ⟨B0.out.size, b1.size⟩
  have K4 : Hid (In .i64 w1 p4 l4 c4 B) := J4.out.below b1
  have K5 : Hid (In .i64 w1 p5 l5 c5 A) := J5.out.below b1
  clear k1 b1 J0 J4 J5 B0
  go_wp2_with fail
  refine (own12 p4 l4 c4 B w1 K4.out (by omega)).mono ?_
  rintro e w2 ⟨v2, rfl, k2, b2⟩
  have O1' : Hid (Own .i32 21 w2 w.heap.size v1 R) := O1.out.below b2
  have O2 : Hid (Own .i64 3 w2 w.heap.size v2 B) := k2.mono B1.out.size
  have R2 : Hid (Rg v2 w1.heap.size w2.heap.size) := fun k hk => k2.lt k hk
  have B2 : Hid (Below w.heap.size w w2) := B1.out.trans (b2.mono B1.out.size)
  have M2 : Hid (w1.heap.size ≤ w2.heap.size) := b2.size
  have J5 : Hid (In .i64 w2 p5 l5 c5 A) := K5.out.below b2
  clear k2 b2 K4 K5 B1 O1
  go_wp2_with fail
  refine (own12 p5 l5 c5 A w2 J5.out (by omega)).mono ?_
  rintro e w3 ⟨v3, rfl, k3, b3⟩
  have O1 : Hid (Own .i32 21 w3 w.heap.size v1 R) := O1'.out.below b3
  have O2' : Hid (Own .i64 3 w3 w.heap.size v2 B) := O2.out.below b3
  have O3 : Hid (Own .i64 3 w3 w.heap.size v3 A) := k3.mono B2.out.size
  have R3 : Hid (Rg v3 w2.heap.size w3.heap.size) := fun k hk => k3.lt k hk
  have B3 : Hid (Below w.heap.size w w3) := B2.out.trans (b3.mono B2.out.size)
  have M3 : Hid (w2.heap.size ≤ w3.heap.size) := b3.size
  clear k3 b3 J5 B2 O1' O2
  obtain ⟨q1, d1, rfl, _⟩ := O1.out.slice
  obtain ⟨q2, d2, rfl, _⟩ := O2'.out.slice
  obtain ⟨q3, d3, rfl, _⟩ := O3.out.slice
  go_wp2_with fail
  refine (own11 q1 _ d1 R w3 (In.inb O1.out) (by rw [← L0.out]; omega)).mono ?_
  rintro e w4 ⟨v4, rfl, k4, b4⟩
  have O1' : Hid (Own .i32 21 w4 w.heap.size (.slice q1 R.length d1) R) := O1.out.below b4
  have O2 : Hid (Own .i64 3 w4 w.heap.size (.slice q2 B.length d2) B) := O2'.out.below b4
  have O3' : Hid (Own .i64 3 w4 w.heap.size (.slice q3 A.length d3) A) := O3.out.below b4
  have O4 : Hid (Own .i32 21 w4 w.heap.size v4 R) := k4.mono B3.out.size
  have R4 : Hid (Rg v4 w3.heap.size w4.heap.size) := fun k hk => k4.lt k hk
  have B4 : Hid (Below w.heap.size w w4) := B3.out.trans (b4.mono B3.out.size)
  have M4 : Hid (w3.heap.size ≤ w4.heap.size) := b4.size
  clear k4 b4 B3 O1 O2' O3
  go_wp2_with fail
  refine (own12 q2 _ d2 B w4 (In.inb O2.out) (by rw [← L4.out]; omega)).mono ?_
  rintro e w5 ⟨v5, rfl, k5, b5⟩
  have O1 : Hid (Own .i32 21 w5 w.heap.size (.slice q1 R.length d1) R) := O1'.out.below b5
  have O2' : Hid (Own .i64 3 w5 w.heap.size (.slice q2 B.length d2) B) := O2.out.below b5
  have O3 : Hid (Own .i64 3 w5 w.heap.size (.slice q3 A.length d3) A) := O3'.out.below b5
  have O4' : Hid (Own .i32 21 w5 w.heap.size v4 R) := O4.out.below b5
  have O5 : Hid (Own .i64 3 w5 w.heap.size v5 B) := k5.mono B4.out.size
  have R5 : Hid (Rg v5 w4.heap.size w5.heap.size) := fun k hk => k5.lt k hk
  have B5 : Hid (Below w.heap.size w w5) := B4.out.trans (b5.mono B4.out.size)
  have M5 : Hid (w4.heap.size ≤ w5.heap.size) := b5.size
  clear k5 b5 B4 O1' O2 O3' O4
  go_wp2_with fail
  refine (own12 q3 _ d3 A w5 (In.inb O3.out) (by rw [← L5.out]; omega)).mono ?_
  rintro e w6 ⟨v6, rfl, k6, b6⟩
  have O1' : Hid (Own .i32 21 w6 w.heap.size (.slice q1 R.length d1) R) := O1.out.below b6
  have O2 : Hid (Own .i64 3 w6 w.heap.size (.slice q2 B.length d2) B) := O2'.out.below b6
  have O3' : Hid (Own .i64 3 w6 w.heap.size (.slice q3 A.length d3) A) := O3.out.below b6
  have O4 : Hid (Own .i32 21 w6 w.heap.size v4 R) := O4'.out.below b6
  have O5' : Hid (Own .i64 3 w6 w.heap.size v5 B) := O5.out.below b6
  have O6 : Hid (Own .i64 3 w6 w.heap.size v6 A) := k6.mono B5.out.size
  have R6 : Hid (Rg v6 w5.heap.size w6.heap.size) := fun k hk => k6.lt k hk
  have B6 : Hid (Below w.heap.size w w6) := B5.out.trans (b6.mono B5.out.size)
  have M6 : Hid (w5.heap.size ≤ w6.heap.size) := b6.size
  clear k6 b6 B5 O1 O2' O3 O4' O5
  obtain ⟨q4, d4, rfl, _⟩ := O4.out.slice
  obtain ⟨q5, d5, rfl, _⟩ := O5'.out.slice
  obtain ⟨q6, d6, rfl, _⟩ := O6.out.slice
  go_wp2_with fail
  refine (make14 q4 R.length d4 gs ge bl q5 B.length d5 q6 A.length d6 w6).mono ?_
  rintro e w7 ⟨rfl, hbuf, b7⟩
  obtain ⟨g, hg⟩ : ∃ g, g = w6.heap.size := ⟨_, rfl⟩
  rw [← hg] at hbuf ⊢
  have S7 : Hid (St w7 w.heap.size g bl T R.length gs (.slice q4 R.length d4) (.slice q5 B.length d5) (.slice q6 A.length d6) R) := by
    have o5 := O5'.out
    have o6 := O6.out
    rw [HB.out] at o5
    rw [HA.out] at o6
    exact st_make hg hbuf b7 O4.out (by rw [← HB.out] at o5 ⊢; exact o5) (by rw [← HA.out] at o6 ⊢; exact o6) rfl h1 (by rw [← L0.out]; exact h2) HT.out B6.out.size R4.out R5.out R6.out M5.out
  have Mi7 : Hid (∀ k, Mine g (.slice q4 R.length d4) (.slice q5 B.length d5) (.slice q6 A.length d6) k → w3.heap.size ≤ k) := by
    intro k hk
    have m4 := M4.out
    have m5 := M5.out
    have m6 := M6.out
    rcases hk with hk | hk | hk | hk
    · omega
    · have := R4.out k hk; omega
    · have := R5.out k hk; omega
    · have := R6.out k hk; omega
  have O1 : Hid (Own .i32 21 w7 w.heap.size (.slice q1 R.length d1) R) := O1'.out.below b7
  have O2' : Hid (Own .i64 3 w7 w.heap.size (.slice q2 B.length d2) B) := O2.out.below b7
  have O3 : Hid (Own .i64 3 w7 w.heap.size (.slice q3 A.length d3) A) := O3'.out.below b7
  have B7 : Hid (Below w.heap.size w w7) := B6.out.trans (b7.mono B6.out.size)
  have M7 : Hid (w3.heap.size ≤ w7.heap.size) := by have m4 := M4.out; have m5 := M5.out; have m6 := M6.out; have := b7.size; show _ ≤ _; omega
  have M0 : Hid (w.heap.size ≤ w3.heap.size) := by have m1 := M1.out; have m2 := M2.out; have m3 := M3.out; show _ ≤ _; omega
  clear hbuf b7 hg B6 O1' O2 O3' O4 O5' O6 R4 R5 R6 M4 M5 M6
  go_wp2_with fail
  refine (move15 (fun k => w3.heap.size ≤ k) w.heap.size g bl T R.length gs p _ _ _ R w7 S7.out Mi7.out (by rw [HTl.out]; omega) (by rw [← L0.out]; omega)).mono ?_
  rintro e w8 ⟨rfl, vb, va, R8, s8, f8, m8⟩
  have S8 : Hid (St w8 w.heap.size g bl T R.length p (.slice q4 R.length d4) vb va R8) := s8
  have Mi8 : Hid (∀ k, Mine g (.slice q4 R.length d4) vb va k → w3.heap.size ≤ k) := by
    intro k hk
    have := M7.out
    rcases m8 k hk with h | h
    · exact h
    · omega
  have fr1 : ∀ v lo, Rg v lo w3.heap.size → ∀ b, Value.ownBlock v = some b → b < w7.heap.size → w8.heap[b]? = w7.heap[b]? := fun v lo hr b hb hlt => f8.block b hlt (by have := hr b hb; omega)
  have O1' : Hid (Own .i32 21 w8 w.heap.size (.slice q1 R.length d1) R) := O1.out.of_block fun b hb => f8.block b (O1.out.base_le b hb) (by have := R1.out b hb; have := M2.out; have := M3.out; omega)
  have O2 : Hid (Own .i64 3 w8 w.heap.size (.slice q2 B.length d2) B) := O2'.out.of_block fun b hb => f8.block b (O2'.out.base_le b hb) (by have := R2.out b hb; have := M3.out; omega)
  have O3' : Hid (Own .i64 3 w8 w.heap.size (.slice q3 A.length d3) A) := O3.out.of_block fun b hb => f8.block b (O3.out.base_le b hb) (by have := R3.out b hb; omega)
  have B8 : Hid (Below w.heap.size w w8) := B7.out.trans (f8.below B7.out.size fun k hk => by have := M0.out; omega)
  have M8 : Hid (w3.heap.size ≤ w8.heap.size) := Nat.le_trans M7.out f8.size
  clear s8 f8 m8 fr1 S7 Mi7 O1 O2' O3 B7 M7
  go_wp2_with fail
  refine (move15 (fun k => w3.heap.size ≤ k) w.heap.size g bl T R.length p q _ _ _ R8 w8 S8.out Mi8.out (by rw [HTl.out]; omega) (by rw [← L0.out]; omega)).mono ?_
  rintro e w9 ⟨rfl, vb2, va2, R9, s9, f9, m9⟩
  have S9 : Hid (St w9 w.heap.size g bl T R.length q (.slice q4 R.length d4) vb2 va2 R9) := s9
  have Mi9 : Hid (∀ k, Mine g (.slice q4 R.length d4) vb2 va2 k → w3.heap.size ≤ k ∧ k < w9.heap.size) := by
    intro k hk
    have := M8.out
    refine ⟨?_, s9.mine_lt k hk⟩
    rcases m9 k hk with h | h
    · exact h
    · omega
  have O1 : Hid (Own .i32 21 w9 w.heap.size (.slice q1 R.length d1) R) := O1'.out.of_block fun b hb => f9.block b (O1'.out.base_le b hb) (by have := R1.out b hb; have := M2.out; have := M3.out; omega)
  have O2' : Hid (Own .i64 3 w9 w.heap.size (.slice q2 B.length d2) B) := O2.out.of_block fun b hb => f9.block b (O2.out.base_le b hb) (by have := R2.out b hb; have := M3.out; omega)
  have O3 : Hid (Own .i64 3 w9 w.heap.size (.slice q3 A.length d3) A) := O3'.out.of_block fun b hb => f9.block b (O3'.out.base_le b hb) (by have := R3.out b hb; omega)
  have B9 : Hid (Below w.heap.size w w9) := B8.out.trans (f9.below B8.out.size fun k hk => by have := M0.out; omega)
  have M9 : Hid (w3.heap.size ≤ w9.heap.size) := Nat.le_trans M8.out f9.size
  clear s9 f9 m9 S8 Mi8 O1' O2 O3' B8 M8
  go_wp2_with fail
  refine (make14 q1 R.length d1 gs ge bl q2 B.length d2 q3 A.length d3 w9).mono ?_
  rintro e w10 ⟨rfl, hbuf, b10⟩
  obtain ⟨g', hg⟩ : ∃ g', g' = w9.heap.size := ⟨_, rfl⟩
  rw [← hg] at hbuf ⊢
  have S10 : Hid (St w10 w.heap.size g' bl T R.length gs (.slice q1 R.length d1) (.slice q2 B.length d2) (.slice q3 A.length d3) R) := by
    have o2 := O2'.out
    have o3 := O3.out
    rw [HB.out] at o2
    rw [HA.out] at o3
    exact st_make hg hbuf b10 O1.out (by rw [← HB.out] at o2 ⊢; exact o2) (by rw [← HA.out] at o3 ⊢; exact o3) rfl h1 (by rw [← L0.out]; exact h2) HT.out B9.out.size R1.out R2.out R3.out M2.out
  have T10 : Hid (St w10 w.heap.size g bl T R.length q (.slice q4 R.length d4) vb2 va2 R9) := S9.out.below b10
  have Mi10 : Hid (∀ k, Mine g' (.slice q1 R.length d1) (.slice q2 B.length d2) (.slice q3 A.length d3) k → (w.heap.size ≤ k ∧ k < w3.heap.size) ∨ w9.heap.size ≤ k) := by
    intro k hk
    have m1 := M1.out
    have m2 := M2.out
    have m3 := M3.out
    rcases hk with hk | hk | hk | hk
    · omega
    · have := R1.out k hk; omega
    · have := R2.out k hk; omega
    · have := R3.out k hk; omega
  have B10 : Hid (Below w.heap.size w w10) := B9.out.trans (b10.mono B9.out.size)
  clear hbuf b10 hg O1 O2' O3 S9 R1 R2 R3 M1 M2 M3
  go_wp2_with fail
  refine (move15 (fun k => (w.heap.size ≤ k ∧ k < w3.heap.size) ∨ w9.heap.size ≤ k) w.heap.size g' bl T R.length gs q _ _ _ R w10 S10.out Mi10.out (by rw [HTl.out]; omega) (by rw [← L0.out]; omega)).mono ?_
  rintro e w11 ⟨rfl, vb3, va3, R11, s11, f11, m11⟩
  have S11 : Hid (St w11 w.heap.size g' bl T R.length q (.slice q1 R.length d1) vb3 va3 R11) := s11
  have T11 : Hid (St w11 w.heap.size g bl T R.length q (.slice q4 R.length d4) vb2 va2 R9) := T10.out.fr f11 fun k hk hh => by have := Mi9.out k hk; omega
  have B11 : Hid (Below w.heap.size w w11) := B10.out.trans (f11.below B10.out.size fun k hk => by have := B9.out.size; omega)
  clear s11 f11 m11 S10 T10 Mi10 B10 Mi9
  go_wp2_with fail
  refine (S11.out.same T11.out (by rw [← L0.out]; omega)).mono ?_
  rintro e w12 ⟨rfl, b12⟩
  have B12 : Hid (Below w.heap.size w w12) := B11.out.trans (b12.mono B11.out.size)
  clear b12 S11 T11 B11
  go_wp2_with fail
  go_ret
  exact ⟨rfl, B12.out⟩
end Go.Proofs.Qxb6602056a
