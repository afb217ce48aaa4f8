import Derived.Test.Qxb6601749aApp
namespace Go.Proofs.Qxb6601749a
open Go.RowKit
set_option linter.unusedSimpArgs false

def SecTrue (w' : World) (B : Nat → Int) (pid : Int) (L : Nat) (e : Ending) : Prop :=
  ∃ a x d0 m g1 c1 g2 c2 : Nat, Hd B pid a x d0 ∧ Found B pid L d0 m ∧ e = .returned (.tuple #[.agg #[.slice (some ⟨g1, 0, none⟩) (secN B d0) c1, .slice (some ⟨g2, 0, none⟩) (pks B pid m).length c2], .bool true]) ∧
    At w' g1 0 (secN B d0) (fun i => (dat B pid d0 m).getD i 0) ∧ At w' g2 0 (pks B pid m).length (fun i => (pks B pid m).getD i 0) ∧ secN B d0 ≤ c1 ∧ c1 ≤ maxLen ∧ (pks B pid m).length ≤ c2 ∧ c2 ≤ maxLen
def SecFalse (B : Nat → Int) (pid : Int) (L : Nat) (e : Ending) : Prop :=
  (¬ ∃ a x d0 m : Nat, Hd B pid a x d0 ∧ Found B pid L d0 m) ∧ e = .returned (.tuple #[.agg #[.slice none 0 0, .slice none 0 0], .bool false])

theorem bel_end {w wr : World} {S : Obj} (hb : Below (w.heap.size + 1) (w.alloc S) wr) : Below w.heap.size w wr := ((Below.refl _ _).alloc (Nat.le_refl _) _).trans (hb.mono (by omega))

theorem At.setCell {w : World} {b off n : Nat} {P : Nat → Int} (h : At w b off n P) {p : Addr} (hp : b ≠ p.block) (u : Value) : At (w.setCell p u) b off n P :=
  fun i hi => ⟨(World.cell?_of_block (w := w) (a := ⟨b, off + i, none⟩) (Below.heap_setCell w p u b hp)).trans (h i hi).1, (h i hi).2⟩

structure SInv (W0 : World) (H L : Nat) (B : Nat → Int) (pid : Int) (d0 : Nat) (wr : World) (m A g1 c1 g2 c2 : Nat) (D P : List Int) : Prop where
  hA : A = 188 * (m + 1)
  hAL : A ≤ L
  hD : D = dat B pid d0 m
  hP : P = pks B pid m
  o1 : Own wr (H + 1) g1 c1 D
  o2 : Own wr (H + 1) g2 c2 P
  ne : g1 ≠ g2
  bel : Below (H + 1) W0 wr
  short : ∀ j, j < m → (dat B pid d0 j).length < secN B d0
  calm : ∀ j, 1 ≤ j → j ≤ m → (payAt B pid j).isSome = true → stt (pkt B (188 * j)) = false

theorem SInv.drewN {W0 : World} {H L : Nat} {B : Nat → Int} {pid : Int} {d0 : Nat} {wr : World} {m A g1 c1 g2 c2 : Nat} {D P : List Int} (h : SInv W0 H L B pid d0 wr m A g1 c1 g2 c2 D P) (n : Nat) : SInv W0 H L B pid d0 (wr.drewN n) m A g1 c1 g2 c2 D P :=
  ⟨h.hA, h.hAL, h.hD, h.hP, h.o1.drewN n, h.o2.drewN n, h.ne, below_drewN' h.bel n, h.short, h.calm⟩

theorem SInv.step_none {W0 : World} {H L : Nat} {B : Nat → Int} {pid : Int} {d0 : Nat} {wr : World} {m A g1 c1 g2 c2 : Nat} {D P : List Int} (h : SInv W0 H L B pid d0 wr m A g1 c1 g2 c2 D P)
    (hp : payAt B pid (m + 1) = none) (hs : D.length < secN B d0) (hL : A + 188 ≤ L) (n : Nat) : SInv W0 H L B pid d0 (wr.drewN n) (m + 1) (A + 188) g1 c1 g2 c2 D P := by
  refine ⟨by rw [h.hA]; omega, hL, by rw [dat_none hp]; exact h.hD, by rw [pks_none hp]; exact h.hP, h.o1.drewN n, h.o2.drewN n, h.ne, below_drewN' h.bel n, ?_, ?_⟩
  · intro j hj
    rcases Nat.lt_succ_iff_lt_or_eq.1 hj with h1 | h1
    · exact h.short j h1
    · rw [h1, ← h.hD]; exact hs
  · intro j h1 h2 h3
    rcases Nat.lt_or_ge m j with h4 | h4
    · obtain rfl : j = m + 1 := by omega
      rw [hp] at h3; cases h3
    · exact h.calm j h1 h4 h3

theorem SInv.step_some {W0 : World} {H L : Nat} {B : Nat → Int} {pid : Int} {d0 : Nat} {wr w2 : World} {m A g1 c1 g2 c2 g1' c1' g2' c2' a' : Nat} {D P E1 E2 : List Int} (h : SInv W0 H L B pid d0 wr m A g1 c1 g2 c2 D P)
    (hp : payAt B pid (m + 1) = some a') (hst : stt (fun i => B (A + i)) = false) (hs : D.length < secN B d0) (hL : A + 188 ≤ L)
    (hE1 : Hid (E1 = D ++ seg (fun i => B (A + a' + i)) 0 (188 - a'))) (hE2 : Hid (E2 = P ++ seg (fun i => B (A + i)) 0 188))
    (o1 : Own w2 (H + 1) g1' c1' E1) (o2 : Own w2 (H + 1) g2' c2' E2) (hne : g1' ≠ g2') (hb : Below (H + 1) W0 w2) : SInv W0 H L B pid d0 w2 (m + 1) (A + 188) g1' c1' g2' c2' E1 E2 := by
  refine ⟨by rw [h.hA]; omega, hL, by rw [hE1.out, h.hD, h.hA, seg_shift, dat_some hp], by rw [hE2.out, h.hP, h.hA, seg_shift, pks_some hp], o1, o2, hne, hb, ?_, ?_⟩
  · intro j hj
    rcases Nat.lt_succ_iff_lt_or_eq.1 hj with h1 | h1
    · exact h.short j h1
    · rw [h1, ← h.hD]; exact hs
  · intro j h1 h2 h3
    rcases Nat.lt_or_ge m j with h4 | h4
    · obtain rfl : j = m + 1 := by omega
      rw [← h.hA]; exact hst
    · exact h.calm j h1 h4 h3

theorem SInv.no_start {W0 : World} {H L : Nat} {B : Nat → Int} {pid : Int} {d0 : Nat} {wr : World} {m A g1 c1 g2 c2 a x a' : Nat} {D P : List Int} (h : SInv W0 H L B pid d0 wr m A g1 c1 g2 c2 D P)
    (hd : Hd B pid a x d0) (hp : payAt B pid (m + 1) = some a') (hst : stt (fun i => B (A + i)) = true) (hs : D.length < secN B d0) : ¬ ∃ a x d0 m : Nat, Hd B pid a x d0 ∧ Found B pid L d0 m := by
  rintro ⟨a1, x1, d1, m1, hd1, hf⟩
  obtain ⟨_, _, rfl⟩ := hd.uniq hd1
  have hm : m + 1 ≤ m1 := by
    rcases Nat.lt_or_ge m m1 with h1 | h1
    · exact h1
    · have := dat_mono B pid d0 h1
      have := hf.enough
      rw [h.hD] at hs
      omega
  have := hf.calm (m + 1) (by omega) hm (by rw [hp]; rfl)
  rw [h.hA] at hst
  unfold pkt at this
  rw [hst] at this
  cases this
theorem SInv.no_end {W0 : World} {H L : Nat} {B : Nat → Int} {pid : Int} {d0 : Nat} {wr : World} {m A g1 c1 g2 c2 a x : Nat} {D P : List Int} (h : SInv W0 H L B pid d0 wr m A g1 c1 g2 c2 D P)
    (hd : Hd B pid a x d0) (hs : D.length < secN B d0) (hL : L < A + 188) : ¬ ∃ a x d0 m : Nat, Hd B pid a x d0 ∧ Found B pid L d0 m := by
  rintro ⟨a1, x1, d1, m1, hd1, hf⟩
  obtain ⟨_, _, rfl⟩ := hd.uniq hd1
  have hr := hf.room
  have hA := h.hA
  have := dat_mono B pid d0 (show m1 ≤ m by omega)
  have := hf.enough
  rw [h.hD] at hs
  omega
theorem SInv.no_least {W0 : World} {H L : Nat} {B : Nat → Int} {pid : Int} {d0 : Nat} {wr : World} {m A g1 c1 g2 c2 a x : Nat} {D P : List Int} (_h : SInv W0 H L B pid d0 wr m A g1 c1 g2 c2 D P)
    (hd : Hd B pid a x d0) (hs : secN B d0 < 12) : ¬ ∃ a x d0 m : Nat, Hd B pid a x d0 ∧ Found B pid L d0 m := by
  rintro ⟨a1, x1, d1, m1, hd1, hf⟩
  obtain ⟨_, _, rfl⟩ := hd.uniq hd1
  have := hf.least
  omega
theorem SInv.found {W0 : World} {H L : Nat} {B : Nat → Int} {pid : Int} {d0 : Nat} {wr : World} {m A g1 c1 g2 c2 : Nat} {D P : List Int} (h : SInv W0 H L B pid d0 wr m A g1 c1 g2 c2 D P)
    (hs : secN B d0 ≤ D.length) (h12 : 12 ≤ secN B d0) (hc : (bits .and .u8 (D.getD 5 0) 1 == 0) = false) : Found B pid L d0 m :=
  ⟨by rw [← h.hA]; exact h.hAL, h.short, h.calm, by rw [← h.hD]; exact hs, h12, by rw [← h.hD]; exact hc⟩
theorem SInv.no_cur {W0 : World} {H L : Nat} {B : Nat → Int} {pid : Int} {d0 : Nat} {wr : World} {m A g1 c1 g2 c2 a x : Nat} {D P : List Int} (h : SInv W0 H L B pid d0 wr m A g1 c1 g2 c2 D P)
    (hd : Hd B pid a x d0) (hs : secN B d0 ≤ D.length) (hc : (bits .and .u8 (D.getD 5 0) 1 == 0) = true) : ¬ ∃ a x d0 m : Nat, Hd B pid a x d0 ∧ Found B pid L d0 m := by
  rintro ⟨a1, x1, d1, m1, hd1, hf⟩
  obtain ⟨_, _, rfl⟩ := hd.uniq hd1
  have hm : m1 = m := by
    rcases Nat.lt_trichotomy m1 m with hl | hl | hl
    · have := h.short m1 hl; have := hf.enough; omega
    · exact hl
    · have := hf.short m hl; rw [← h.hD] at this; omega
  subst hm
  have := hf.cur
  rw [← h.hD, hc] at this
  cases this

set_option maxRecDepth 20000 in
set_option maxHeartbeats 1000000 in
theorem sec34y (bb bo L C a x d0 : Nat) (B : Nat → Int) (pid : Int) (w : World)
    (hat : At w bb bo L B) (hB : ∀ i, 0 ≤ B i ∧ B i ≤ 255) (hL : 188 ≤ L) (hL2 : L ≤ 1048576) (hC : L ≤ C) (hC2 : C ≤ 9223372036854775807)
    (hd : Hd B pid a x d0) :
    Calls Try.prog 34 #[.slice (some ⟨bb, bo, none⟩) L C, .int .i64 pid] w fun e w' => Below w.heap.size w w' ∧ (SecTrue w' B pid L e ∨ SecFalse B pid L e) := by
  have hx2 : x ≤ 255 := by have := hB a; rw [hd.hx] at this; omega
  obtain ⟨ha, ha2⟩ := pay_range (hB 4).1 hd.hp
  have hfit := hd.fit
  have hc0 := (hat a (by omega)).1
  rw [hd.hx] at hc0
  have hbb : bb < w.heap.size := hat.lt (by omega)
  have HA : Hid (At w bb bo L B) := hat
  have HA1 : Hid (∀ o, At (w.alloc o) bb bo L B) := fun o => hat.alloc hbb o
  have HB : Hid (∀ i, 0 ≤ B i ∧ B i ≤ 255) := hB
  have HD : Hid (Hd B pid a x d0) := hd
  clear hat hd hB
  have c2 : (188 : Int) ≤ (L : Int) := by omega
  have c3 : (188 : Int) ≤ (C : Int) := by omega
  have c4 : ¬ ((188 : Int) - (a : Int) < 1 + (x : Int) + 3) := by omega
  go_enter Try.func34, Try.ntmps34
  go_wp2_with (first
    | (go_at_call 33; refine (pay33s bb bo C B pid _ ((HA1.out _).le hL) (by omega) (by omega) a true HD.out.hp HD.out.hs).mono ?_; rintro e w' ⟨rfl, n, rfl⟩)
    | (at_builtin; refine wpList_app rfl (.tmp 35) (.tmp 42) rfl (w.heap.size+1) (w.heap.size + 1) 0 [] rfl (Own.empty _ (by simp) _ (by simp)) bb (bo+a+(1+x)) (188 - a - (1 + x)) _ _ (fun i => B (a + (1 + x) + i)) rfl rfl (by rw [Nat.add_assoc]; exact (((HA1.out _).drewN _).alloc (by simp; omega) _).sub _ _ (by omega)) (by omega) (by simp; omega) (by simp) _ ((below_drewN' (Below.refl _ _) _).alloc (by simp) _) ?_; intro g1 cap1 w1 D1 hD1 hO1 hgr1 hg1 hlt1 hbe1; have HA2 : Hid (At w1 bb bo L B) := (HA1.out _).below hbe1 (by omega); have hs1 := hbe1.size; simp only [World.size_alloc] at hs1)
    | (at_builtin; refine wpList_app rfl (.tmp 44) (.tmp 46) rfl (w.heap.size+1) w1.heap.size 0 [] rfl (Own.empty _ (by omega) _ rfl) bb bo 188 _ C B rfl rfl ((HA2.out.alloc (by omega) _).le hL) (by omega) (by simp) (by simp; omega) _ (hbe1.alloc (by omega) _) ?_; intro g2 cap2 w2 D2 hD2 hO2 hgr2 hg2 hlt2 hbe2)
    )
  have O1 := (hO1.alloc (.cells #[] 5)).kept hgr2 (by omega)
  have hD1' : D1 = dat B pid d0 0 := by rw [hD1.out, HD.out.hd]; simp [dat, seg, Nat.sub_sub]
  have hD2' : D2 = pks B pid 0 := by rw [hD2.out]; simp [pks, seg]
  have hl1 : D1.length = 188 - d0 := by rw [hD1']; exact length_seg _ _ _
  have hd0 := HD.out.hd
  have hl3 : 3 ≤ D1.length := by omega
  have a1 := O1.at (by rw [hD1']; exact dat_mem HB.out pid d0 0)
  have k1 := (a1 1 (by omega)).1
  have k2 := (a1 2 (by omega)).1
  simp only [hD1', dat_head B pid d0 0 1 (by omega), dat_head B pid d0 0 2 (by omega), Nat.zero_add] at k1 k2
  have hr := secNI_range HB.out d0
  have hN := secN_eq HB.out d0
  have y1 := HB.out (d0 + 1)
  have y2 := HB.out (d0 + 2)
  unfold secNI at hr hN
  obtain ⟨Y1, hY1⟩ : ∃ Y, Y = B (d0 + 1) := ⟨_, rfl⟩
  obtain ⟨Y2, hY2⟩ : ∃ Y, Y = B (d0 + 2) := ⟨_, rfl⟩
  rw [← hY1] at k1 y1 hr hN
  rw [← hY2] at k2 y2 hr hN
  obtain ⟨M, hM⟩ : ∃ M : Nat, bits .or .i64 (Y1 % 16 * 256) Y2 = (M : Int) := ⟨(bits .or .i64 (Y1 % 16 * 256) Y2).toNat, by omega⟩
  rw [hM] at hr hN
  have hMN : secN B d0 = 3 + M := by omega
  have hM2 : M ≤ 4095 := by omega
  have SI : SInv (w.alloc (.cells #[.slice none 0 0, .slice none 0 0] 48)) w.heap.size L B pid d0 w2 0 188 g1 cap1 g2 cap2 D1 D2 :=
    ⟨rfl, hL, hD1', hD2', O1, hO2, by rcases hg2 with h | h; (· omega); (· simp only [World.size_alloc] at h; omega), hbe2, fun j hj => absurd hj (by omega), fun j h1 h2 => by omega⟩
  have HMN : Hid (secN B d0 = 3 + M) := hMN
  have i1 : (1 : Int) < (D1.length : Int) := by omega
  have i2 : (2 : Int) < (D1.length : Int) := by omega
  clear hr hN hY1 hY2 hMN hl1 hd0 a1 O1 hD1' hD2' hO1 hgr1 hg1 hlt1 hbe1 hs1 hD1 hO2 hgr2 hg2 hlt2 hbe2 hD2 HA2
  go_quiet (fail)
  clear k1 k2
  go_wp2
  go_loopw [8, 9, 11] (fun d p t wr => ∃ (m A g1 c1 g2 c2 : Nat) (D P : List Int), d = .slice (some ⟨g1, 0, none⟩) D.length c1 ∧ p = .slice (some ⟨g2, 0, none⟩) P.length c2 ∧ t = .int .i64 A ∧ SInv (w.alloc (.cells #[.slice none 0 0, .slice none 0 0] 48)) w.heap.size L B pid d0 wr m A g1 c1 g2 c2 D P) (fun _ _ t _ => L - (intOf t).toNat)
  case atStart => exact ⟨0, 188, g1, cap1, g2, cap2, D1, D2, rfl, rfl, rfl, SI.drewN _⟩
  case round =>
    clear SI
    obtain ⟨m, A, g1, c1, g2, c2, D, P, rfl, rfl, rfl, SI⟩ := hrel
    have hAL := SI.hAL
    have ls1 := SI.o1.lt
    have ls2 := SI.o2.lt
    have hne := SI.ne
    have HAr : Hid (At wr bb bo L B) := (HA1.out _).below SI.bel (by omega)
    have hDl : D.length ≤ 1048576 := by rw [SI.hD]; have := dat_len B pid d0 m; have := SI.hA; omega
    have hPl : P.length ≤ 1048576 := by rw [SI.hP]; have := pks_len B pid m; have := SI.hA; omega
    have hs0 : w.heap.size < wr.heap.size := by have := SI.bel.size; simp at this; omega
    have q0 : wr.cell? ⟨w.heap.size, 0, none⟩ = some (.slice none 0 0) := (SI.bel.cell (p := ⟨w.heap.size, 0, none⟩) (by simp)).trans (by simp)
    have q1 : wr.cell? ⟨w.heap.size, 1, none⟩ = some (.slice none 0 0) := (SI.bel.cell (p := ⟨w.heap.size, 1, none⟩) (by simp)).trans (by simp)
    have q2 : wr.frozen? ⟨w.heap.size, 0, none⟩ = false := (SI.bel.frozen (p := ⟨w.heap.size, 0, none⟩) (by simp)).trans (by simp)
    have q3 : wr.frozen? ⟨w.heap.size, 1, none⟩ = false := (SI.bel.frozen (p := ⟨w.heap.size, 1, none⟩) (by simp)).trans (by simp)
    clear i1 i2 y1 y2 hM hl3
    by_cases hlt : (D.length : Int) < 3 + (M : Int)
    · by_cases hAl : A + 188 ≤ L
      · rcases hpa : payAt B pid (m + 1) with _ | a'
        · have hpa' : pay (fun i => B (A + i)) pid = none := by rw [SI.hA]; exact hpa
          have HPA : Hid (pay (fun i => B (A + i)) pid = none) := hpa'
          have HPB : Hid (payAt B pid (m + 1) = none) := hpa
          clear hpa hpa'
          go_wp2_with (first | (go_at_call 33; refine (pay33n bb (bo + A) (C - A) (fun i => B (A + i)) pid _ (HAr.out.sub A 188 hAl) (by omega) (by omega) HPA.out).mono ?_; rintro e w' ⟨rfl, n, rfl⟩))
          go_roundw
          case rel => exact ⟨m + 1, A + 188, g1, c1, g2, c2, D, P, rfl, rfl, by go_num, SI.step_none HPB.out (by have := HMN.out; omega) (by omega) _⟩
          case measure => simp [intOf]; omega
        · have hpa' : pay (fun i => B (A + i)) pid = some a' := by rw [SI.hA]; exact hpa
          have HPA : Hid (pay (fun i => B (A + i)) pid = some a') := hpa'
          have HPB : Hid (payAt B pid (m + 1) = some a') := hpa
          obtain ⟨ra1, ra2⟩ := pay_range (P := fun i => B (A + i)) (HB.out _).1 hpa'
          clear hpa hpa'
          rcases hst : stt (fun i => B (A + i)) with _ | _
          · have HST : Hid (stt (fun i => B (A + i)) = false) := hst
            clear hst
            go_wp2_with (first
              | (go_at_call 33; refine (pay33s bb (bo + A) (C - A) (fun i => B (A + i)) pid _ (HAr.out.sub A 188 hAl) (by omega) (by omega) a' false HPA.out HST.out).mono ?_; rintro e w' ⟨rfl, n, rfl⟩)
              | (at_builtin; refine wpList_app rfl (.tmp 87) (.tmp 88) rfl (w.heap.size+1) g1 c1 D rfl (SI.o1.drewN _) bb (bo + A + a') (188 - a') _ (C - A - a') (fun i => B (A + a' + i)) rfl rfl (by rw [Nat.add_assoc]; exact (HAr.out.drewN _).sub (A + a') (188 - a') (by omega)) (by omega) (by omega) (by simp; omega) _ (below_drewN' SI.bel _) ?_; intro g1' c1' w1 E1 hE1 hO1 hgr1 hg1 hlt1 hbe1; have HA2 : Hid (At w1 bb bo L B) := (HA1.out _).below hbe1 (by omega); have O2 := (SI.o2.drewN n).kept hgr1 (fun h => hne h.symm))
              | (at_builtin; go_must (refine wpList_app rfl (.tmp 90) (.tmp 95) rfl (w.heap.size+1) g2 c2 P rfl O2 bb (bo + A) 188 _ (C - A) (fun i => B (A + i)) rfl (by omega) (HA2.out.sub A 188 (by omega)) (by omega) (by omega) (by have := hbe1.size; simp at this; omega) _ hbe1 ?_); intro g2' c2' w2 E2 hE2 hO2 hgr2 hg2 hlt2 hbe2))
            go_roundw
            case rel => exact ⟨m + 1, A + 188, g1', c1', g2', c2', E1, E2, rfl, rfl, by go_num, SI.step_some HPB.out HST.out (by have := HMN.out; omega) (by omega) hE1 hE2 (hO1.kept hgr2 (by simp at hg1; rcases hg1 with h | h <;> omega)) hO2 (by simp at hg1; rcases hg1 with h | h <;> rcases hg2 with h' | h' <;> omega) hbe2⟩
            case measure => simp [intOf]; omega
          · have HST : Hid (stt (fun i => B (A + i)) = true) := hst
            clear hst
            go_wp2_with (first | (go_at_call 33; refine (pay33s bb (bo + A) (C - A) (fun i => B (A + i)) pid _ (HAr.out.sub A 188 hAl) (by omega) (by omega) a' true HPA.out HST.out).mono ?_; rintro e w' ⟨rfl, n, rfl⟩))
            refine bodyPost_ret (v := .tuple #[.agg #[.slice none 0 0, .slice none 0 0], .bool false]) (by simp [results, Try.results34, go_sem, q0, q1, q2, q3, hs0]) rfl ⟨?_, Or.inr ⟨?_, rfl⟩⟩
            · exact ((below_drewN' (bel_end SI.bel) _).setCell (Nat.le_refl _) _).setCell (Nat.le_refl _) _
            · exact SI.no_start HD.out HPB.out HST.out (by have := HMN.out; omega)
      · go_wp2
        refine bodyPost_ret (v := .tuple #[.agg #[.slice none 0 0, .slice none 0 0], .bool false]) (by simp [results, Try.results34, go_sem, q0, q1, q2, q3, hs0]) rfl ⟨?_, Or.inr ⟨?_, rfl⟩⟩
        · exact ((bel_end SI.bel).setCell (Nat.le_refl _) _).setCell (Nat.le_refl _) _
        · exact SI.no_end HD.out (by have := HMN.out; omega) (by omega)
    · by_cases h12 : (3 : Int) + (M : Int) < 12
      · go_wp2
        refine bodyPost_ret (v := .tuple #[.agg #[.slice none 0 0, .slice none 0 0], .bool false]) (by simp [results, Try.results34, go_sem, q0, q1, q2, q3, hs0]) rfl ⟨?_, Or.inr ⟨?_, rfl⟩⟩
        · exact ((bel_end SI.bel).setCell (Nat.le_refl _) _).setCell (Nat.le_refl _) _
        · exact SI.no_least HD.out (by have := HMN.out; omega)
      · have k5 := (SI.o1.at (by rw [SI.hD]; exact dat_mem HB.out pid d0 m) 5 (by omega)).1
        simp only [Nat.zero_add] at k5
        obtain ⟨Z, hZ⟩ : ∃ Z, Z = D.getD 5 0 := ⟨_, rfl⟩
        rw [← hZ] at k5
        have HZ : Hid (Z = D.getD 5 0) := hZ
        clear hZ
        have i5 : (5 : Int) < (D.length : Int) := by omega
        have i6 : (3 : Int) + (M : Int) ≤ (D.length : Int) := by omega
        have i7 := SI.o1.cap
        unfold maxLen at i7
        go_wp2
        · refine bodyPost_ret (v := .tuple #[.agg #[.slice none 0 0, .slice none 0 0], .bool false]) (by simp [results, Try.results34, go_sem, q0, q1, q2, q3, hs0]) rfl ⟨?_, Or.inr ⟨?_, rfl⟩⟩
          · exact ((bel_end SI.bel).setCell (Nat.le_refl _) _).setCell (Nat.le_refl _) _
          · have hc : (bits .and .u8 Z 1 == 0) = true := by assumption
            rw [HZ.out] at hc
            exact SI.no_cur HD.out (by have := HMN.out; omega) hc
        · have hc : (bits .and .u8 Z 1 == 0) = false := by assumption
          rw [HZ.out] at hc
          refine bodyPost_ret (v := .tuple #[.agg #[.slice (some ⟨g1, 0, none⟩) (3 + M) c1, .slice (some ⟨g2, 0, none⟩) P.length c2], .bool true]) (by simp [results, Try.results34, go_sem, q0, q1, q2, q3, hs0]) rfl ⟨?_, Or.inl ?_⟩
          · exact ((bel_end SI.bel).setCell (Nat.le_refl _) _).setCell (Nat.le_refl _) _
          · have hN := HMN.out
            have hm := SI.hP
            have hat1 := ((SI.o1.at (by rw [SI.hD]; exact dat_mem HB.out pid d0 m)).le (show 3 + M ≤ D.length by omega))
            have hat2 := SI.o2.at (by rw [SI.hP]; exact pks_mem HB.out pid m)
            have hc2 := SI.o2.cap
            have hf := SI.found (by omega) (by omega) hc
            refine ⟨a, x, d0, m, g1, c1, g2, c2, HD.out, hf, ?_, ?_, ?_, by omega, SI.o1.cap.2, by rw [← hm]; exact hc2.1, hc2.2⟩
            · rw [hN, ← hm]
            · rw [hN, ← SI.hD]; exact (hat1.setCell (by simp; omega) _).setCell (by simp; omega) _
            · rw [← hm]; exact (hat2.setCell (by simp; omega) _).setCell (by simp; omega) _
end Go.Proofs.Qxb6601749a
