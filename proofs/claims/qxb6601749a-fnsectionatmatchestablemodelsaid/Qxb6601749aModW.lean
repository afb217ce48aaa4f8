import Derived.Test.Qxb6601749aModL
namespace Go.Proofs.Qxb6601749a
open Go.RowKit
set_option linter.unusedSimpArgs false

set_option maxRecDepth 20000 in
set_option maxHeartbeats 2000000 in
theorem model20y (bb bo L C a x d0 : Nat) (B : Nat → Int) (pid : Int) (w : World)
    (hat : At w bb bo L B) (hB : ∀ i, 0 ≤ B i ∧ B i ≤ 255) (hL : 188 ≤ L) (hL2 : L ≤ 1048576) (hC : L ≤ C) (hC2 : C ≤ 9223372036854775807)
    (hd : Hd B pid a x d0) :
    Calls Try.prog 20 #[.slice (some ⟨bb, bo, none⟩) L C, .int .i64 pid] w fun e w' => Below w.heap.size w w' ∧ (MTrue w' B pid L e ∨ MFalse B pid L e) := by
  have hx2 : x ≤ 255 := by have := hB a; rw [hd.hx] at this; omega
  obtain ⟨ha, ha2⟩ := pay_range (hB 4).1 hd.hp
  have hfit := hd.fit
  have hdd := hd.hd
  have hc0 := (hat a (by omega)).1
  rw [hd.hx] at hc0
  have y1 := (hat (d0 + 1) (by omega)).2
  have y2 := (hat (d0 + 2) (by omega)).2
  have hc1 := (hat (d0 + 1) (by omega)).1
  have hc2 := (hat (d0 + 2) (by omega)).1
  have hr := secNI_range hB d0
  have hN := secN_eq hB d0
  unfold secNI at hr hN
  obtain ⟨Y1, hY1⟩ : ∃ Y, Y = B (d0 + 1) := ⟨_, rfl⟩
  obtain ⟨Y2, hY2⟩ : ∃ Y, Y = B (d0 + 2) := ⟨_, rfl⟩
  rw [← hY1] at hc1 y1 hr hN
  rw [← hY2] at hc2 y2 hr hN
  obtain ⟨M, hM⟩ : ∃ M : Nat, bits .or .i64 (Y1 % 16 * 256) Y2 = (M : Int) := ⟨(bits .or .i64 (Y1 % 16 * 256) Y2).toNat, by omega⟩
  rw [hM] at hr hN
  have HMN : Hid (secN B d0 = 3 + M) := by show _ = _; omega
  have hM2 : M ≤ 4095 := by omega
  rw [hdd] at hc1 hc2
  rw [show bo + (a + (1 + x) + 1) = bo + a + (1 + x + 1) by omega] at hc1
  rw [show bo + (a + (1 + x) + 2) = bo + a + (1 + x + 2) by omega] at hc2
  have hbb : bb < w.heap.size := hat.lt (by omega)
  have HA : Hid (At w bb bo L B) := hat
  have HB : Hid (∀ i, 0 ≤ B i ∧ B i ≤ 255) := hB
  have HD : Hid (Hd B pid a x d0) := hd
  have HDD : Hid (d0 = a + (1 + x)) := hdd
  clear hat hd hB hdd hr hN hY1 hY2
  have c2 : (188 : Int) ≤ (L : Int) := by omega
  have c3 : (188 : Int) ≤ (C : Int) := by omega
  have c4 : 1 + (x : Int) + 3 ≤ ((188 - a : Nat) : Int) := by omega
  have c5 : (0 : Int) < ((188 - a : Nat) : Int) := by omega
  have c6 : 1 + (x : Int) + 1 < ((188 - a : Nat) : Int) := by omega
  have c7 : 1 + (x : Int) + 2 < ((188 - a : Nat) : Int) := by omega
  obtain ⟨Mx, hMx⟩ : ∃ Mx : Nat, Mx = L / 188 := ⟨_, rfl⟩
  have hMi : (L : Int) / 188 = (Mx : Int) := by omega
  have hM1 : 1 ≤ Mx := by omega
  have hMl : 188 * Mx ≤ L := by omega
  have HML : Hid (L < 188 * (Mx + 1)) := by show _ < _; omega
  clear hMx
  obtain ⟨i3, hi3, hz30, hz31, hz32⟩ := info_parts Try.info3
  obtain ⟨i4, hi4, hz40, hz41, hz42⟩ := info_parts Try.info4
  have hnil := fun (w : World) (a : Option Addr) (n c : Nat) => Lib.run_eql_slice_nil (P := Try.prog) w 22 5 a n c 0 0 Try.underlying22
  go_enter Try.func20, Try.ntmps20
  go_wp2_with (first
    | (go_at_call 14; refine (pay14s bb bo C B pid _ (HA.out.le hL) (by omega) (by omega) a true HD.out.hp HD.out.hs).mono ?_; rintro e w' ⟨rfl, n, rfl⟩))
  go_quiet (fail)
  have hb1 : Below w.heap.size w ((w.drewN n).drewN nq) := below_drewN' (below_drewN' (Below.refl _ _) _) _
  have HA1 : Hid (At ((w.drewN n).drewN nq) bb bo L B) := (HA.out.drewN _).drewN _
  have hs1 : ((w.drewN n).drewN nq).heap.size = w.heap.size := by simp
  clear hc0 hc1 hc2 HA hM y1 y2
  generalize (w.drewN n).drewN nq = w1 at hb1 HA1 hs1 ⊢
  go_wp2_with (first
    | (at_make; refine wpList_make_own _ rfl (.const (.int .i64 0)) (.tmp 68) 43 rfl w.heap.size 3 i3 (.int .i64 0) 1 Try.underlying43 hi3 hz30 hz31 .i64 .i64 (Mx : Int) Mx rfl rfl rfl (by rw [hz32]; omega) (by unfold maxLen; omega) (by omega) ?_; intro w2 hX2 hgr2; have hX2' : OwnV w2 w.heap.size 3 w1.heap.size Mx [] := hX2; have sX2 := hX2'.lt; clear hX2)
    | (at_make; refine wpList_make_own _ rfl (.const (.int .i64 0)) (.tmp 70) 43 rfl w.heap.size 3 i3 (.int .i64 0) 1 Try.underlying43 hi3 hz30 hz31 .i64 .i64 (Mx : Int) Mx rfl rfl rfl (by rw [hz32]; omega) (by unfold maxLen; omega) (by omega) ?_; intro w3 hY3 hgr3; have hY3' : OwnV w3 w.heap.size 3 w2.heap.size Mx [] := hY3; have sY3 := hY3'.lt; clear hY3)
    | (at_make; refine wpList_make_own _ rfl (.const (.int .i64 0)) (.tmp 72) 51 rfl w.heap.size 4 i4 (.bool false) 1 Try.underlying51 hi4 hz40 hz41 .i64 .i64 (Mx : Int) Mx rfl rfl rfl (by rw [hz42]; omega) (by unfold maxLen; omega) (by omega) ?_; intro w4 hZ4 hgr4; have hZ4' : OwnV w4 w.heap.size 4 w3.heap.size Mx [] := hZ4; have sZ4 := hZ4'.lt; clear hZ4))
  have SI : L1 w1 w.heap.size w.heap.size w2.heap.size w3.heap.size Mx B pid w4 0 [] [] [] :=
    ⟨by omega, rfl, rfl, rfl, by have h := (hX2'.kept0 hgr3).kept0 hgr4; rw [hs1] at h; exact h, hY3'.kept0 hgr4, hZ4', (((Below.refl _ _).grown hgr2 (by omega) (by simp)).grown hgr3 (by omega) (by simp)).grown hgr4 (by omega) (by simp)⟩
  rw [hs1] at sX2
  have g1 : w.heap.size < w2.heap.size := sX2.2
  have g2 : w2.heap.size < w3.heap.size := sY3.2
  clear hX2' hgr2 hgr3 hgr4 hY3' hZ4' sX2 sY3 sZ4
  go_loopw [12, 13, 14, 15] (fun a b c k wr => ∃ (m kk : Nat) (X Y Z : List Value), a = .slice (some ⟨w.heap.size, 0, none⟩) X.length Mx ∧ b = .slice (some ⟨w2.heap.size, 0, none⟩) Y.length Mx ∧ c = .slice (some ⟨w3.heap.size, 0, none⟩) Z.length Mx ∧ k = .int .i64 (kk : Int) ∧ Hid (kk = m + 1) ∧ L1 w1 w.heap.size w.heap.size w2.heap.size w3.heap.size Mx B pid wr m X Y Z) (fun _ _ _ k _ => Mx - (intOf k).toNat)
  case atStart => exact ⟨0, 1, [], [], [], rfl, rfl, rfl, rfl, rfl, SI⟩
  case round =>
    clear SI
    obtain ⟨m, kk, X, Y, Z, rfl, rfl, rfl, rfl, HKK, SI⟩ := hrel
    have l1 := SI.oX.lt
    have l2 := SI.oY.lt
    have l3 := SI.oZ.lt
    have hwr : w.heap.size ≤ wr.heap.size := by omega
    have hkM : kk ≤ Mx := by have := SI.le; have := HKK.out; omega
    have hXl : X.length + 1 ≤ kk := by rw [SI.hX, idxV, List.length_map]; have := cs_len B pid m; have := HKK.out; omega
    have hYl : Y.length + 1 ≤ kk := by rw [SI.hY, offV, List.length_map]; have := cs_len B pid m; have := HKK.out; omega
    have hZl : Z.length + 1 ≤ kk := by rw [SI.hZ, sttV, List.length_map]; have := cs_len B pid m; have := HKK.out; omega
    by_cases hlt : kk < Mx
    · have HAr : Hid (At wr bb bo L B) := HA1.out.below SI.bel (by omega)
      have z1 : (kk : Int) < (Mx : Int) := by omega
      rcases hpa : payAt B pid (m + 1) with _ | a'
      · have HPB : Hid (payAt B pid (m + 1) = none) := hpa
        have HPA : Hid (pay (fun i => B (kk * 188 + i)) pid = none) := by show _ = _; rw [HKK.out, Nat.mul_comm]; exact hpa
        clear hpa
        go_wp2_with (first
          | (go_at_call 14; refine (pay14n' bb (bo + kk * 188) (C - kk * 188) _ (fun i => B (kk * 188 + i)) pid _ (HAr.out.sub (kk * 188) 188 (by omega)) (by omega) (by omega) HPA.out (by omega)).mono ?_; rintro e w' ⟨rfl, n, rfl⟩))
        go_roundw
        case rel => exact ⟨m + 1, kk + 1, X, Y, Z, rfl, rfl, rfl, by go_num, (by show _ = _; rw [HKK.out]), SI.step_none HPB.out (by have := HKK.out; omega) _⟩
        case measure => simp [intOf]; omega
      · have HPB : Hid (payAt B pid (m + 1) = some a') := hpa
        have HPA : Hid (pay (fun i => B (kk * 188 + i)) pid = some a') := by show _ = _; rw [HKK.out, Nat.mul_comm]; exact hpa
        obtain ⟨ra1, ra2⟩ := pay_range (P := fun i => B (kk * 188 + i)) (HB.out _).1 HPA.out
        obtain ⟨st, hst⟩ : ∃ st, stt (fun i => B (kk * 188 + i)) = st := ⟨_, rfl⟩
        have HST : Hid (stt (fun i => B (kk * 188 + i)) = st) := hst
        clear hpa hst
        go_wp2_with (first
          | (go_at_call 14; refine (pay14s' bb (bo + kk * 188) (C - kk * 188) _ (fun i => B (kk * 188 + i)) pid _ (HAr.out.sub (kk * 188) 188 (by omega)) (by omega) (by omega) a' st HPA.out HST.out (by omega)).mono ?_; rintro e w' ⟨rfl, n, rfl⟩)
          | (at_builtin; refine wpList_push rfl (.tmp 93) (.tmp 95) 43 rfl w.heap.size 3 Try.underlying43 i3 hi3 hz31 w.heap.size Mx X (.int .i64 (kk : Int)) rfl rfl ((SI.oX.drewN n).alloc _) _ rfl (cell_new rfl) (by omega) w1 (bel_da SI.bel hwr n _) (le_da hwr n _) ?_; intro w5 X' hX' oX5 gr5 be5; have oY5 := ((SI.oY.drewN n).alloc (.cells #[.int .i64 (kk : Int)] 3)).kept gr5 (by omega); have oZ5 := ((SI.oZ.drewN n).alloc (.cells #[.int .i64 (kk : Int)] 3)).kept gr5 (by omega); have s5 : w.heap.size ≤ w5.heap.size := by have := oX5.lt; omega)
          | (at_builtin; refine wpList_push rfl (.tmp 97) (.tmp 101) 43 rfl w.heap.size 3 Try.underlying43 i3 hi3 hz31 w2.heap.size Mx Y (.int .i64 (188 - ((188 - a' : Nat) : Int))) rfl rfl (oY5.alloc _) _ rfl (cell_new rfl) (by omega) w1 (be5.alloc s5 _) (le_a s5 _) ?_; intro w6 Y' hY' oY6 gr6 be6; have oX6 := (oX5.alloc (.cells #[.int .i64 (188 - ((188 - a' : Nat) : Int))] 3)).kept gr6 (by omega); have oZ6 := (oZ5.alloc (.cells #[.int .i64 (188 - ((188 - a' : Nat) : Int))] 3)).kept gr6 (by omega); have s6 : w.heap.size ≤ w6.heap.size := by have := oX6.lt; omega)
          | (at_builtin; go_must (refine wpList_push rfl (.tmp 103) (.tmp 105) 51 rfl w.heap.size 4 Try.underlying51 i4 hi4 hz41 w3.heap.size Mx Z (.bool st) rfl rfl (oZ6.alloc _) _ rfl (cell_new rfl) (by omega) w1 (be6.alloc s6 _) (le_a s6 _) ?_); intro w7 Z' hZ' oZ7 gr7 be7; have oX7 := (oX6.alloc (.cells #[.bool st] 4)).kept gr7 (by omega); have oY7 := (oY6.alloc (.cells #[.bool st] 4)).kept gr7 (by omega)))
        go_roundw
        case rel => exact ⟨m + 1, kk + 1, X', Y', Z', rfl, rfl, rfl, by go_num, (by show _ = _; rw [HKK.out]), SI.step_some HPB.out (by have := HKK.out; omega) (by rw [hX'.out, ← HKK.out]) (by rw [hY'.out, show (188 - ((188 - a' : Nat) : Int)) = (a' : Int) by omega]) (by rw [hZ'.out, ← HST.out, HKK.out, Nat.mul_comm]; rfl) oX7 oY7 oZ7 be7⟩
        case measure => simp [intOf]; omega
    · have hm : m + 1 = Mx := by have := SI.le; have := HKK.out; omega
      obtain ⟨I, hI⟩ : ∃ I, I = cs B pid m := ⟨_, rfl⟩
      have eX : X.length = I.length := by rw [SI.hX, hI, idxV, List.length_map]
      have eY : Y.length = I.length := by rw [SI.hY, hI, offV, List.length_map]
      have eZ : Z.length = I.length := by rw [SI.hZ, hI, sttV, List.length_map]
      have HeX : Hid (X.length = I.length) := eX
      have HeY : Hid (Y.length = I.length) := eY
      have HeZ : Hid (Z.length = I.length) := eZ
      have HI : Hid (I = cs B pid m) := hI
      have hIl : I.length + 1 ≤ Mx := by omega
      clear eX eY eZ hI
      go_wp2_with (first
        | (at_make; refine wpList_make_full _ rfl (.tmp 109) (.tmp 109) 43 rfl w.heap.size 3 i3 (.int .i64 0) 1 Try.underlying43 hi3 hz30 hz31 .i64 .i64 ((X.length : Int) + 1) ((X.length : Int) + 1) (X.length + 1) rfl rfl (by omega) (by omega) (by rw [hz32]; omega) (by unfold maxLen; omega) hwr ?_; intro wc hownc hgrc; have RC : RowC wc wr.heap.size (X.length + 1) (fun _ => 0) := RowC.of_own hownc (fun _ => 0) (made_at _); have q0 := (RC 0 (by omega)).1; have q1 := (RC 0 (by omega)).2))
      obtain ⟨wo, rfl⟩ : ∃ wo : World, wo = wr := ⟨_, rfl⟩
      have HSI : Hid (L1 w1 w.heap.size w.heap.size w2.heap.size w3.heap.size Mx B pid wo m X Y Z) := SI
      have hd0 : d0 = a + (1 + x) := HDD.out
      have L20 : L2 wo wo.heap.size (X.length + 1) B pid d0 I (wc.setCell ⟨wo.heap.size, 0, none⟩ (.int .i64 (((188 - a : Nat) : Int) - (1 + (x : Int))))) 0 (fun j => if j = 0 then (((188 - a : Nat) : Int) - (1 + (x : Int))) else 0) :=
        ⟨RC.set 0 _ (by omega), fun u hu => by obtain rfl : u = 0 := by omega
                                               simp only [if_true, cum_zero]; omega, ((Below.refl _ _).grown hgrc (Nat.le_refl _) (by simp)).setCell (Nat.le_refl _) _⟩
      clear q0 q1 RC hownc hgrc SI hd0
      go_loopw [19] (fun i wi => ∃ (k : Nat) (F : Nat → Int), k ≤ X.length ∧ i = .int .i64 (k : Int) ∧ L2 wo wo.heap.size (X.length + 1) B pid d0 I wi k F) (fun i _ => X.length - (intOf i).toNat)
      case atStart => exact ⟨0, _, Nat.zero_le _, rfl, L20⟩
      case round =>
        clear L20
        obtain ⟨k, F, hk, rfl, h2⟩ := hrel
        by_cases hlt : k < X.length
        · have kI : k < I.length := by have := HeX.out; omega
          obtain ⟨ck, hck⟩ : ∃ ck, ck = cum B pid d0 I k := ⟨_, rfl⟩
          obtain ⟨ok, hok⟩ : ∃ ok, ok = offs B pid (I.getD k 0) := ⟨_, rfl⟩
          have v1 := (h2.row k (by omega)).1
          rw [h2.val k (Nat.le_refl _), ← hck] at v1
          have v2 := (h2.row (k + 1) (by omega)).1
          have v3 := (h2.row (k + 1) (by omega)).2
          have lY := HSI.out.oY.lt
          have v4 : wr.cell? ⟨w2.heap.size, k, none⟩ = some (.int .i64 (ok : Int)) := by
            rw [h2.bel.cell (p := ⟨w2.heap.size, k, none⟩) lY.2, HSI.out.oY.cell k (by have := HeX.out; have := HeY.out; omega)]
            simp only [HSI.out.hY, offV, List.getElem_map, hok, HI.out]
            have : (cs B pid m).getD k 0 = (cs B pid m)[k]'(by rw [← HI.out]; exact kI) := by simp [List.getD, show k < (cs B pid m).length by rw [← HI.out]; exact kI]
            rw [this]
          have b1 : ck ≤ 188 * (k + 1) := by rw [hck]; exact cum_le B pid d0 I k
          have b2 : ok ≤ 188 := by rw [hok]; exact offs_le HB.out pid _
          have hcs : cum B pid d0 I (k + 1) = ck + (188 - ok) := by rw [hck, hok]; exact cum_succ B pid d0 I k kI
          have HCS : Hid (cum B pid d0 I (k + 1) = ck + (188 - ok)) := hcs
          have z1 : (0 : Int) ≤ (k : Int) := by omega
          have z2 : (k : Int) < ((X.length + 1 : Nat) : Int) := by omega
          have z3 : (k : Int) + 1 < ((X.length + 1 : Nat) : Int) := by omega
          have z4 : (k : Int) < (Y.length : Int) := by have := HeX.out; have := HeY.out; omega
          have z5 : (k : Int) < (X.length : Int) := by omega
          have hne : w2.heap.size ≠ wo.heap.size := by omega
          have H2 : Hid (L2 wo wo.heap.size (X.length + 1) B pid d0 I wr k F) := h2
          clear hck hok hcs h2
          go_wp2
          go_region
          go_wp2
          go_roundw
          case rel => exact ⟨k + 1, fun j => if j = k + 1 then ((ck : Int) + 188 - (ok : Int)) else F j, by omega, by go_num, H2.out.step (by omega) (by rw [HCS.out]; omega)⟩
          case measure => simp [intOf]; omega
        · have hkX : k = X.length := by omega
          subst hkX
          obtain ⟨wq, rfl⟩ : ∃ wq : World, wq = wr := ⟨_, rfl⟩
          obtain ⟨cu, hcu⟩ : ∃ cu, cu = cum B pid d0 I := ⟨_, rfl⟩
          have HCU : Hid (cu = cum B pid d0 I) := hcu
          have HF : Hid (∀ u, u ≤ X.length → wq.cell? ⟨wo.heap.size, u, none⟩ = some (.int .i64 (cu u : Int))) := by
            intro u hu
            rw [(h2.row u (by omega)).1, h2.val u hu, hcu]
          have HCL : Hid (∀ u, cu u ≤ 188 * (u + 1)) := by intro u; rw [hcu]; exact cum_le B pid d0 I u
          have hbq : Below wo.heap.size wo wq := h2.bel
          clear h2 hcu F hk
          go_wp2
          go_loop [20, 21] (fun s u => ∃ U j : Nat, U ≤ X.length ∧ j ≤ X.length + 1 ∧ s = .int .i64 (U : Int) ∧ u = .int .i64 ((j : Int) - 1) ∧ Hid (Lu cu (3 + M) X.length j U)) (fun _ u => (intOf u + 1).toNat)
          case atStart => exact ⟨X.length, X.length + 1, Nat.le_refl _, Nat.le_refl _, rfl, by go_num, Lu.start _ _ _⟩
          case round =>
            obtain ⟨U, j, hU, hj, rfl, rfl, HLu⟩ := hrel
            rcases j with _ | j
            · have e0 : (((0 : Nat) : Int) - 1) = -1 := by omega
              simp only [e0]
              have HV : Hid (∀ v, v < U → cu v < 3 + M) := fun v hv => (HLu.out.1 v (Nat.zero_le _) hv)
              have v5 := HF.out U hU
              have b5 := HCL.out U
              have z1 : (0 : Int) ≤ (U : Int) := by omega
              have z2 : (U : Int) < ((X.length + 1 : Nat) : Int) := by omega
              have hbW : Below w.heap.size w wq := (hb1.trans HSI.out.bel).trans (hbq.mono hwr)
              have HNF : Hid ((∀ u, ¬ MF B pid d0 I u) → ¬ ∃ a x d0 m : Nat, Hd B pid a x d0 ∧ Found B pid L d0 m) := by
                intro hno
                rw [HI.out] at hno
                exact no_found HD.out (by have := HML.out; omega) hno
              have HUI : Hid (U ≤ I.length) := by show _ ≤ _; have := HeX.out; omega
              by_cases hen : cu U < 3 + M
              · go_wp2
                go_ret3
                refine ⟨hbW, Or.inr ⟨HNF.out fun u hu => ?_, rfl⟩⟩
                rcases HLu.out.2 with h | ⟨_, h⟩
                · omega
                · have h1 := h u (Nat.zero_le _) (by have := hu.le; have := HeX.out; omega)
                  have h2 := hu.enough
                  rw [← HCU.out, HMN.out] at h2
                  omega
              · by_cases h12 : (3 : Int) + (M : Int) < 12
                · go_wp2
                  go_ret3
                  refine ⟨hbW, Or.inr ⟨HNF.out fun u hu => ?_, rfl⟩⟩
                  have h2 := hu.least
                  rw [HMN.out] at h2
                  omega
                · have HUQ : Hid (∀ u, MF B pid d0 I u → u = U) := by
                    intro u hu
                    refine hu.uniq ?_ ?_
                    · intro v hv; rw [← HCU.out, HMN.out]; exact HV.out v hv
                    · rw [← HCU.out, HMN.out]; omega
                  clear HLu
                  go_wp2
                  go_loop [22] (fun i => ∃ k : Nat, k ≤ U ∧ i = .int .i64 (k : Int) ∧ Hid (∀ i, i < k → stt (pkt B (188 * I.getD i 0)) = false)) (fun i => U - (intOf i).toNat)
                  case atStart => exact ⟨0, Nat.zero_le _, rfl, fun i hi => absurd hi (by omega)⟩
                  case round =>
                    obtain ⟨k, hk, rfl, HST⟩ := hrel
                    by_cases hlt : k < U
                    · have kI : k < I.length := by have := HUI.out; omega
                      have lZ := HSI.out.oZ.lt
                      have v6 : wq.cell? ⟨w3.heap.size, k, none⟩ = some (.bool (stt (pkt B (188 * I.getD k 0)))) := by
                        rw [hbq.cell (p := ⟨w3.heap.size, k, none⟩) lZ.2, HSI.out.oZ.cell k (by have := HeZ.out; omega)]
                        simp only [HSI.out.hZ, sttV, List.getElem_map, HI.out]
                        have : (cs B pid m).getD k 0 = (cs B pid m)[k]'(by rw [← HI.out]; exact kI) := by simp [List.getD, show k < (cs B pid m).length by rw [← HI.out]; exact kI]
                        rw [this]
                      have z3 : (0 : Int) ≤ (k : Int) := by omega
                      have z4 : (k : Int) < (Z.length : Int) := by have := HeZ.out; omega
                      rcases hst : stt (pkt B (188 * I.getD k 0)) with _ | _
                      · rw [hst] at v6
                        have HS1 : Hid (stt (pkt B (188 * I.getD k 0)) = false) := hst
                        clear hst
                        go_wp2
                        go_round
                        case rel => exact ⟨k + 1, by omega, by go_num, fun i hi => by
                            rcases Nat.lt_succ_iff_lt_or_eq.1 hi with h | h
                            · exact HST.out i h
                            · rw [h]; exact HS1.out⟩
                        case measure => simp [intOf]; omega
                      · rw [hst] at v6
                        have HS1 : Hid (stt (pkt B (188 * I.getD k 0)) = true) := hst
                        clear hst
                        go_wp2
                        go_ret3
                        refine ⟨hbW, Or.inr ⟨HNF.out fun u hu => ?_, rfl⟩⟩
                        obtain rfl := HUQ.out u hu
                        have h1 := hu.calm (I.getD k 0) (getD_mem_take hlt kI)
                        rw [HS1.out] at h1
                        cases h1
                    · obtain rfl : k = U := by omega
                      have hwq : w.heap.size ≤ wq.heap.size := Nat.le_trans hwr hbq.size
                      have HAq : Hid (At wq bb bo L B) := (HA1.out.below HSI.out.bel (by omega)).below hbq (by omega)
                      have lX := HSI.out.oX.lt
                      have lY := HSI.out.oY.lt
                      have sq := hbq.size
                      obtain ⟨i5, hi5, hz50, hz51, hz52⟩ := info_parts Try.info5
                      have hd0 := HDD.out
                      go_wp2_with (first
                        | (at_make; refine wpList_make_own _ rfl (.const (.int .i64 0)) (.tmp 174) 22 rfl wq.heap.size 5 i5 (.int .u8 0) 1 Try.underlying22 hi5 hz50 hz51 .i64 .i64 (cu k : Int) (cu k) rfl rfl rfl (by rw [hz52]; omega) (by unfold maxLen; omega) (Nat.le_refl _) ?_; intro w5 own5 gr5; have o5 : Own w5 wq.heap.size wq.heap.size (cu k) [] := own5; have be5 : Below wq.heap.size wq w5 := (Below.refl _ _).grown gr5 (Nat.le_refl _) (by simp); have HA5 : Hid (At w5 bb bo L B) := HAq.out.below be5 (by omega); have s5 := be5.size; clear own5 gr5)
                        | (at_builtin; refine wpList_app rfl (.tmp 176) (.tmp 179) rfl wq.heap.size wq.heap.size (cu k) [] rfl o5 bb (bo + a + (1 + x)) (188 - a - (1 + x)) _ (C - a - (1 + x)) (fun i => B (a + (1 + x) + i)) rfl rfl (by rw [Nat.add_assoc]; exact HA5.out.sub (a + (1 + x)) _ (by omega)) (by omega) (by simp; omega) s5 wq be5 ?_; intro g1 c1 w6 D1 hD1 o6 gr6 hg6 lt6 be6; have HA6 : Hid (At w6 bb bo L B) := HAq.out.below be6 (by omega); have s6 := be6.size)
                        | (at_make; refine wpList_make_own _ rfl (.const (.int .i64 0)) (.tmp 183) 22 rfl wq.heap.size 5 i5 (.int .u8 0) 1 Try.underlying22 hi5 hz50 hz51 .i64 .i64 (((k : Int) + 1) * 188) ((k + 1) * 188) rfl rfl (by omega) (by rw [hz52]; omega) (by unfold maxLen; omega) s6 ?_; intro w7 own7 gr7; have o7 : Own w7 wq.heap.size w6.heap.size ((k + 1) * 188) [] := own7; have be7 : Below wq.heap.size wq w7 := be6.grown gr7 s6 (by simp); have HA7 : Hid (At w7 bb bo L B) := HAq.out.below be7 (by omega); have s7 := be7.size; have o67 : Own w7 wq.heap.size g1 c1 D1 := World.ownsRow.kept o6 gr7 (.inr (by simp [Value.ownBlock])); clear own7)
                        | (at_builtin; go_must (refine wpList_app rfl (.tmp 185) (.tmp 187) rfl wq.heap.size w6.heap.size ((k + 1) * 188) [] rfl o7 bb bo 188 _ C B rfl rfl (HA7.out.le hL) (by omega) (by simp) s7 wq be7 ?_); intro g2 c2 w8 P1 hP1 o8 gr8 hg8 lt8 be8; have o68 := o67.kept gr8 (by omega)))
                      have L50 : L5 wq wq.heap.size B pid d0 I w8 0 g1 c1 g2 c2 D1 P1 := by
                        refine ⟨?_, ?_, o68, o8, by have := gr7.size; omega, be8⟩
                        · rw [hD1.out, hd0]; simp [datC, seg, Nat.sub_sub]
                        · rw [hP1.out]; simp [flat, seg]
                      have hkI : k ≤ I.length := HUI.out
                      clear hD1 o6 gr6 hg6 lt6 be6 HA6 s6 o7 be7 HA7 s7 o67 hP1 o8 gr8 hg8 lt8 be8 o68 o5 be5 HA5 s5 hd0 gr7
                      go_loopw [23, 24, 25] (fun d p i wr => ∃ (q g1 c1 g2 c2 : Nat) (D P : List Int), q ≤ k ∧ d = .slice (some ⟨g1, 0, none⟩) D.length c1 ∧ p = .slice (some ⟨g2, 0, none⟩) P.length c2 ∧ i = .int .i64 (q : Int) ∧ L5 wq wq.heap.size B pid d0 I wr q g1 c1 g2 c2 D P) (fun _ _ i _ => k - (intOf i).toNat)
                      case atStart => exact ⟨0, g1, c1, g2, c2, D1, P1, Nat.zero_le _, rfl, rfl, rfl, L50⟩
                      case round =>
                        clear L50
                        obtain ⟨q, g1, c1, g2, c2, D, P, hq, rfl, rfl, rfl, h5⟩ := hrel
                        have HAr : Hid (At wr bb bo L B) := HAq.out.below h5.bel (by omega)
                        have l1 := h5.o1.lt
                        have l2 := h5.o2.lt
                        have hne := h5.ne
                        have hDl : D.length ≤ 1048576 := by rw [h5.hD]; have := cum_le B pid d0 I q; unfold cum at this; omega
                        have hPl : P.length ≤ 1048576 := by rw [h5.hP, flat_len]; simp; omega
                        by_cases hlt5 : q < k
                        · have qI : q < I.length := by omega
                          obtain ⟨ik, hik⟩ : ∃ ik, ik = I.getD q 0 := ⟨_, rfl⟩
                          obtain ⟨b1, b2, b3⟩ := cs_mem B pid m ik (by rw [← HI.out, hik]; exact getD_mem qI)
                          obtain ⟨ok, hok⟩ := Option.isSome_iff_exists.1 b3
                          have hof : offs B pid ik = ok := offs_some hok
                          have rk := pay_range (P := pkt B (188 * ik)) (HB.out _).1 hok
                          have v7 : wr.cell? ⟨w.heap.size, q, none⟩ = some (.int .i64 (ik : Int)) := by
                            rw [h5.bel.cell (p := ⟨w.heap.size, q, none⟩) (Nat.lt_of_lt_of_le lX.2 sq), hbq.cell (p := ⟨w.heap.size, q, none⟩) lX.2, HSI.out.oX.cell q (by have := HeX.out; omega)]
                            simp only [HSI.out.hX, idxV, List.getElem_map, hik, HI.out]
                            have : (cs B pid m).getD q 0 = (cs B pid m)[q]'(by rw [← HI.out]; exact qI) := by simp [List.getD, show q < (cs B pid m).length by rw [← HI.out]; exact qI]
                            rw [this]
                          have v8 : wr.cell? ⟨w2.heap.size, q, none⟩ = some (.int .i64 (ok : Int)) := by
                            rw [h5.bel.cell (p := ⟨w2.heap.size, q, none⟩) (Nat.lt_of_lt_of_le lY.2 sq), hbq.cell (p := ⟨w2.heap.size, q, none⟩) lY.2, HSI.out.oY.cell q (by have := HeX.out; have := HeY.out; omega)]
                            simp only [HSI.out.hY, offV, List.getElem_map, ← hof, hik, HI.out]
                            have : (cs B pid m).getD q 0 = (cs B pid m)[q]'(by rw [← HI.out]; exact qI) := by simp [List.getD, show q < (cs B pid m).length by rw [← HI.out]; exact qI]
                            rw [this]
                          have HIK : Hid (ik = I.getD q 0) := hik
                          have HOF : Hid (offs B pid ik = ok) := hof
                          have hikM : ik + 1 ≤ Mx := by omega
                          clear hik hof b3 hok
                          have z6 : (0 : Int) ≤ (q : Int) := by omega
                          have z7 : (q : Int) < (X.length : Int) := by have := HeX.out; omega
                          have z8 : (q : Int) < (Y.length : Int) := by have := HeX.out; have := HeY.out; omega
                          have z9 : (q : Int) < (k : Int) := by omega
                          obtain ⟨S, hS⟩ : ∃ S, S = ik * 188 + ok := ⟨_, rfl⟩
                          obtain ⟨T, hT⟩ : ∃ T, T = (ik + 1) * 188 := ⟨_, rfl⟩
                          obtain ⟨R, hR⟩ : ∃ R, R = ik * 188 := ⟨_, rfl⟩
                          have e1 : (ik : Int) * 188 = (R : Int) := by omega
                          have e2 : ((ik : Int) + 1) * 188 = (T : Int) := by omega
                          have e3 : (R : Int) + (ok : Int) = (S : Int) := by omega
                          have t1 : IntKind.i64.wrap (R : Int) = (R : Int) := by rw [IntKind.wrap_i64]; omega
                          have t2 : IntKind.i64.wrap (S : Int) = (S : Int) := by rw [IntKind.wrap_i64]; omega
                          have t3 : IntKind.i64.wrap ((ik : Int) + 1) = (ik : Int) + 1 := by rw [IntKind.wrap_i64]; omega
                          have t4 : IntKind.i64.wrap (T : Int) = (T : Int) := by rw [IntKind.wrap_i64]; omega
                          have x1 : (S : Int) ≤ (T : Int) := by omega
                          have x2 : (R : Int) ≤ (T : Int) := by omega
                          have x3 : (T : Int) ≤ (C : Int) := by omega
                          have x4 : T ≤ L := by omega
                          have x5 : S ≤ T := by omega
                          have x6 : R ≤ T := by omega
                          have hCS : ¬ C = S := by omega
                          have hCR : ¬ C = R := by omega
                          have hST : T = S + (188 - ok) := by omega
                          have hRT : T = R + 188 := by omega
                          have HST' : Hid (T = S + (188 - ok)) := hST
                          have HRT' : Hid (T = R + 188) := hRT
                          have HS' : Hid (S = ik * 188 + ok) := hS
                          have HR' : Hid (R = ik * 188) := hR
                          clear hS hT hR hST hRT
                          have n1 : w.heap.size ≠ g1 := by omega
                          have n2 : w2.heap.size ≠ g1 := by omega
                          have n3 : w.heap.size ≠ g2 := by omega
                          have n4 : w2.heap.size ≠ g2 := by omega
                          go_wp2
                          go_region_held3 (fun w' => w'.cell? ⟨w.heap.size, q, none⟩ = some (.int .i64 (ik : Int)) ∧ w'.cell? ⟨w2.heap.size, q, none⟩ = some (.int .i64 (ok : Int)))
                            (first
                              | go_keep
                              | (go_split_ands
                                 refine ⟨?_, ?_⟩
                                 · (rw [gr9.cell_far _ (by simp; omega) (by simpa using n1)]; assumption)
                                 · (rw [gr9.cell_far _ (by simp; omega) (by simpa using n2)]; assumption)))
                            ((refine step_app (by rfl) (.tmp 194) (.tmp 212) (by rfl) wq.heap.size g1 c1 D (by rfl) (h5.o1.drew) bb (bo + S) (188 - ok) (T - S) (C - S) (fun i => B (S + i)) (by rfl) (by have := HST'.out; omega) (HAr.out.drew.sub S (188 - ok) (by have := HS'.out; omega)) (by omega) (by omega) (by simp; omega) wq h5.bel.drew ?_; intro g1' c1' w9 D' hD' o9 gr9 hg9 lt9 be9))
                          have u1 : w9.cell? ⟨w.heap.size, q, none⟩ = some (.int .i64 (ik : Int)) := ((be9.cell (p := ⟨w.heap.size, q, none⟩) (Nat.lt_of_lt_of_le lX.2 sq)).trans (h5.bel.cell (p := ⟨w.heap.size, q, none⟩) (Nat.lt_of_lt_of_le lX.2 sq)).symm).trans v7
                          have HA9 : Hid (At w9 bb bo L B) := HAq.out.below be9 (by omega)
                          have o29 : Own w9 wq.heap.size g2 c2 P := (h5.o2.drew).kept gr9 (fun h => hne h.symm)
                          have l9 := o29.lt
                          have hg9' : g1' = g1 ∨ g1' = wr.heap.size := hg9
                          clear v7 v8
                          go_wp2
                          go_region_held3 (fun w' => w'.cell? ⟨w.heap.size, q, none⟩ = some (.int .i64 (ik : Int)))
                            (first
                              | go_keep
                              | (rw [gr10.cell_far _ (by simp; omega) (by simpa using n3)]; assumption))
                            ((refine step_app (by rfl) (.tmp 214) (.tmp 227) (by rfl) wq.heap.size g2 c2 P (by rfl) (o29.drew) bb (bo + R) 188 (T - R) (C - R) (fun i => B (R + i)) (by rfl) (by have := HRT'.out; omega) (HA9.out.drew.sub R 188 (by have := HR'.out; omega)) (by omega) (by omega) (by simp; omega) wq be9.drew ?_; intro g2' c2' w10 P' hP' o10 gr10 hg10 lt10 be10))
                          have hg10' : g2' = g2 ∨ g2' = w9.heap.size := hg10
                          have o110 : Own w10 wq.heap.size g1' c1' D' := (o9.drew).kept gr10 (by omega)
                          go_wp2
                          go_roundw
                          case rel => exact ⟨q + 1, g1', c1', g2', c2', D', P', by omega, rfl, rfl, by go_num, h5.step qI HIK HOF HS' HR' hD' hP' o110 o10 (by omega) be10⟩
                          case measure => simp [intOf]; omega
                        · obtain rfl : q = k := by omega
                          have hDc : D.length = cu q := by rw [h5.hD, HCU.out]; rfl
                          have k5 := (h5.o1.at (by rw [h5.hD]; exact datC_mem HB.out pid d0 _) 5 (by omega)).1
                          simp only [Nat.zero_add] at k5
                          obtain ⟨Zv, hZv⟩ : ∃ Zv, Zv = D.getD 5 0 := ⟨_, rfl⟩
                          rw [← hZv] at k5
                          have HZv : Hid (Zv = D.getD 5 0) := hZv
                          have HDc : Hid (D.length = cu q) := hDc
                          have i5' : (5 : Int) < (D.length : Int) := by omega
                          have i6 : (3 : Int) + (M : Int) ≤ (D.length : Int) := by omega
                          have i7 := h5.o1.cap
                          unfold maxLen at i7
                          have hbr : Below w.heap.size w wr := hbW.trans (h5.bel.mono hwq)
                          clear hZv hDc
                          go_wp2
                          · have hc : (bits .and .u8 Zv 1 == 0) = true := by assumption
                            go_ret3
                            refine ⟨hbr, Or.inr ⟨HNF.out fun u hu => ?_, rfl⟩⟩
                            obtain rfl := HUQ.out u hu
                            have h1 := hu.cur
                            rw [← h5.hD, ← HZv.out, hc] at h1
                            cases h1
                          · have hc : (bits .and .u8 Zv 1 == 0) = false := by assumption
                            go_ret3
                            refine ⟨hbr, Or.inl ?_⟩
                            have hmf : MF B pid d0 (cs B pid m) q := by
                              rw [← HI.out]
                              refine ⟨hkI, ?_, ?_, ?_, ?_, ?_⟩
                              · intro v hv; rw [← HCU.out, HMN.out]; exact HV.out v hv
                              · exact calm_take hkI HST.out
                              · rw [← HCU.out, HMN.out]; omega
                              · rw [HMN.out]; omega
                              · rw [← h5.hD, ← HZv.out]; exact hc
                            obtain ⟨m', f1, f2, f3⟩ := hmf.found (L := L) (by omega)
                            rw [← HI.out, ← h5.hD] at f2
                            rw [← HI.out, ← h5.hP] at f3
                            refine ⟨a, x, d0, m', g1, c1, g2, c2, HD.out, f1, ?_, ?_, ?_⟩
                            · rw [HMN.out, f3]; rfl
                            · rw [HMN.out, f2]; exact (h5.o1.at (by rw [h5.hD]; exact datC_mem HB.out pid d0 _)).le (by omega)
                            · rw [f3]; exact h5.o2.at (by rw [← f3]; exact pks_mem HB.out pid _)
            · have e1 : (((j + 1 : Nat) : Int) - 1) = (j : Int) := by omega
              simp only [e1]
              have v5 := HF.out j (by omega)
              have b5 := HCL.out j
              have z1 : (0 : Int) ≤ (j : Int) := by omega
              have z2 : (j : Int) < ((X.length + 1 : Nat) : Int) := by omega
              go_wp2
              · go_round
                case rel => exact ⟨j, j, by omega, by omega, rfl, rfl, HLu.out.hit (by omega)⟩
                case measure => simp [intOf]
              · go_round
                case rel => exact ⟨U, j, by omega, by omega, rfl, rfl, HLu.out.miss (by omega)⟩
                case measure => simp [intOf]
end Go.Proofs.Qxb6601749a
