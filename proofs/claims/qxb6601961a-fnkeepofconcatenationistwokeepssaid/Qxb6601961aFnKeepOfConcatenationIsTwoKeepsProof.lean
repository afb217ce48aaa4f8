/-
  'Rows.FnKeepOfConcatenationIsTwoKeepsSaid', proved. The frame is after the guide's shells, turned to an array of fifteen bytes by value.
-/
import Derived.Test.Qxb6601961aRows
import Derived.WalkKit
import Derived.ProofKit
import Derived.OpenShut
import Derived.ShutString
import Derived.ChangeOld
import Derived.Below
import Derived.Test.Qxb6601961aLaw
namespace Go.Proofs.Qxb6601961a.fnKeepOfConcatenationIsTwoKeeps
open Go.ChangeShapes Go.WideShapes Go.ChangeAt Go.RowKit
set_option linter.unusedVariables false

theorem own : ownKnob Try.prog.godebug = none := by kernel_rfl
theorem laidOut : laidOutB Try.prog = true := by kernel_rfl
theorem cells22 : Try.prog.cellsOf 22 = 15 := by kernel_rfl

/-- WHAT THE WALK IS TOLD OF A SLICE OF BYTES THAT CAME IN (the shells' own word). -/
def IsRow (k : IntKind) (w : World) (a : Option Addr) (len cap : Nat) (zs : List Int) : Prop :=
  (a = none ∧ len = 0 ∧ cap = 0 ∧ zs = []) ∨
  ∃ x, a = some x ∧ len ≤ cap ∧ cap ≤ maxLen ∧ zs.length = cap ∧ (∀ i, i < zs.length → w.cell? (x.add i) = some (.int k (zs.getD i 0))) ∧ ∀ n ∈ zs, (Lit.int k n).wf = true

theorem list15V {L : List Value} (hl : L.length = 15) (h : ∀ i, i < 15 → ∃ x : Int, L[i]? = some (.int .u8 x)) : ∃ x0 x1 x2 x3 x4 x5 x6 x7 x8 x9 x10 x11 x12 x13 x14 : Int, L = [.int .u8 x0, .int .u8 x1, .int .u8 x2, .int .u8 x3, .int .u8 x4, .int .u8 x5, .int .u8 x6, .int .u8 x7, .int .u8 x8, .int .u8 x9, .int .u8 x10, .int .u8 x11, .int .u8 x12, .int .u8 x13, .int .u8 x14] := by
  match L, hl with
  | [c0, c1, c2, c3, c4, c5, c6, c7, c8, c9, c10, c11, c12, c13, c14], _ =>
    obtain ⟨x0, e0⟩ := h 0 (by omega)
    simp at e0
    subst e0
    obtain ⟨x1, e1⟩ := h 1 (by omega)
    simp at e1
    subst e1
    obtain ⟨x2, e2⟩ := h 2 (by omega)
    simp at e2
    subst e2
    obtain ⟨x3, e3⟩ := h 3 (by omega)
    simp at e3
    subst e3
    obtain ⟨x4, e4⟩ := h 4 (by omega)
    simp at e4
    subst e4
    obtain ⟨x5, e5⟩ := h 5 (by omega)
    simp at e5
    subst e5
    obtain ⟨x6, e6⟩ := h 6 (by omega)
    simp at e6
    subst e6
    obtain ⟨x7, e7⟩ := h 7 (by omega)
    simp at e7
    subst e7
    obtain ⟨x8, e8⟩ := h 8 (by omega)
    simp at e8
    subst e8
    obtain ⟨x9, e9⟩ := h 9 (by omega)
    simp at e9
    subst e9
    obtain ⟨x10, e10⟩ := h 10 (by omega)
    simp at e10
    subst e10
    obtain ⟨x11, e11⟩ := h 11 (by omega)
    simp at e11
    subst e11
    obtain ⟨x12, e12⟩ := h 12 (by omega)
    simp at e12
    subst e12
    obtain ⟨x13, e13⟩ := h 13 (by omega)
    simp at e13
    subst e13
    obtain ⟨x14, e14⟩ := h 14 (by omega)
    simp at e14
    subst e14
    exact ⟨x0, x1, x2, x3, x4, x5, x6, x7, x8, x9, x10, x11, x12, x13, x14, rfl⟩

theorem open_line {H : Type} {enc : TypeId × Value → H} {W : World} {base : Nat} {v : Value} {d : DataW H} {p : List MemPlace} (hv : Value.okWide Try.prog W .any base 22 v) (h : DataW.Trod enc Try.prog W 0 (fun _ => true) true 22 v d p) :
    ∃ x0 x1 x2 x3 x4 x5 x6 x7 x8 x9 x10 x11 x12 x13 x14 : Int, v = .agg #[.int .u8 x0, .int .u8 x1, .int .u8 x2, .int .u8 x3, .int .u8 x4, .int .u8 x5, .int .u8 x6, .int .u8 x7, .int .u8 x8, .int .u8 x9, .int .u8 x10, .int .u8 x11, .int .u8 x12, .int .u8 x13, .int .u8 x14] := by
  obtain ⟨cs, rfl, hsz, _⟩ : ∃ cs, v = .agg cs ∧ cs.size = Try.prog.cellsOf 22 ∧ Row.okWide Try.prog W .any base 22 cs := by
    simpa [Value.okWide, Try.underlying22] using hv
  rw [cells22] at hsz
  obtain ⟨l⟩ := cs
  obtain ⟨fuel, hf⟩ := h
  obtain ⟨ys, m, _, _, hlen, hl, hel⟩ := DataW.trod_array Try.underlying22 hf
  have hl15 : l.length = 15 := by simpa using hsz
  obtain ⟨x0, x1, x2, x3, x4, x5, x6, x7, x8, x9, x10, x11, x12, x13, x14, rfl⟩ := list15V hl15 (fun i hi => by
    have he := hel i hi
    rw [Try.cells5, Nat.mul_one, List.getElem?_eq_getElem (by omega)] at he
    obtain ⟨x, e, _, _⟩ := DataW.trod_int Try.underlying5 he
    refine ⟨x, ?_⟩
    have e1 : (l.drop i).take 1 = [.int .u8 x] := by simpa [Value.cells] using e
    have e2 : ((l.drop i).take 1)[0]? = some (.int .u8 x) := by rw [e1]; rfl
    rw [List.getElem?_take_of_lt (by omega), List.getElem?_drop, Nat.add_zero] at e2
    exact e2)
  exact ⟨x0, x1, x2, x3, x4, x5, x6, x7, x8, x9, x10, x11, x12, x13, x14, rfl⟩

theorem in_of {w : World} {a : Option Addr} {len cap : Nat} {zs : List Int} (h : IsRow .u8 w a len cap zs) : In w a len cap (zs.take len) ∧ ∀ i, 0 ≤ (zs.take len).getD i 0 ∧ (zs.take len).getD i 0 ≤ 255 := by
  rcases h with ⟨rfl, rfl, rfl, rfl⟩ | ⟨x, rfl, hlc, hcm, hz, hcell, hwf⟩
  · exact ⟨.inl ⟨rfl, rfl, rfl, rfl⟩, fun i => by simp⟩
  · refine ⟨.inr ⟨x, rfl, by rw [List.length_take]; omega, fun i hi => ?_⟩, fun i => ?_⟩
    · rw [hcell i (by omega)]
      simp [List.getD, List.getElem?_take_of_lt hi]
    · rw [List.getD_eq_getElem?_getD]
      by_cases hi : i < (zs.take len).length
      · rw [List.getElem?_eq_getElem hi]
        have := bounds_u8 (hwf _ (List.mem_of_mem_take (List.getElem_mem hi)))
        simpa using this
      · rw [List.getElem?_eq_none (by omega)]; simp

/-! ### THE WALK -/
set_option maxRecDepth 20000 in
set_option maxHeartbeats 2000000 in
theorem out4 (x0 x1 x2 x3 x4 x5 x6 x7 x8 x9 x10 x11 x12 x13 x14 n : Int) (b0 b1 b2 b3 b4 : Bool) (p1 p2 : Option Addr) (n1 c1 n2 c2 : Nat) (w : World) (h1 : n1 ≤ 9223372036854775807) (h2 : n2 ≤ 9223372036854775807) (hn : -9223372036854775808 ≤ n ∧ n ≤ 9223372036854775807)
    (h : 1048576 < n1 ∨ 1048576 < n2 ∨ 1048576 < n1 + n2 ∨ n < 0 ∨ 9223372036854775807 - (n1 : Int) - (n2 : Int) < n) :
    Calls Try.prog 4 #[.agg #[.int .u8 x0, .int .u8 x1, .int .u8 x2, .int .u8 x3, .int .u8 x4, .int .u8 x5, .int .u8 x6, .int .u8 x7, .int .u8 x8, .int .u8 x9, .int .u8 x10, .int .u8 x11, .int .u8 x12, .int .u8 x13, .int .u8 x14], .int .i64 n, .bool b0, .bool b1, .bool b2, .bool b3, .bool b4, .slice p1 n1 c1, .slice p2 n2 c2] w fun e w' => e = .returned (.bool true) ∧ Below w.heap.size w w' := by
  have hb0 : ∀ o1 o2 : Obj, Below w.heap.size w ((w.alloc o1).alloc o2) := fun o1 o2 => ((Below.refl _ _).alloc (Nat.le_refl _) _).alloc (by simp) _
  have HB0 : Hid (∀ o1 o2 : Obj, Below w.heap.size w ((w.alloc o1).alloc o2)) := hb0
  clear hb0
  by_cases g1 : 1048576 < n1
  · clear h
    go_enter Try.func4, Try.ntmps4
    go_wp2
    go_ret
    exact ⟨rfl, HB0.out _ _⟩
  by_cases g2 : 1048576 < n2
  · clear h
    go_enter Try.func4, Try.ntmps4
    go_wp2
    go_ret
    exact ⟨rfl, HB0.out _ _⟩
  by_cases g3 : 1048576 < n1 + n2
  · clear h
    go_enter Try.func4, Try.ntmps4
    go_wp2
    go_ret
    exact ⟨rfl, HB0.out _ _⟩
  by_cases g4 : n < 0
  · clear h
    go_enter Try.func4, Try.ntmps4
    go_wp2
    go_ret
    exact ⟨rfl, HB0.out _ _⟩
  have g5 : 9223372036854775807 - (n1 : Int) - (n2 : Int) < n := by omega
  clear h
  go_enter Try.func4, Try.ntmps4
  go_wp2
  go_ret
  exact ⟨rfl, HB0.out _ _⟩

theorem walk (x0 x1 x2 x3 x4 x5 x6 x7 x8 x9 x10 x11 x12 x13 x14 n : Int) (b0 b1 b2 b3 b4 : Bool) (p1 : Option Addr) (n1 c1 : Nat) (zA : List Int) (p2 : Option Addr) (n2 c2 : Nat) (zB : List Int) (w : World) (wn : (Lit.int .i64 n).wf = true) (i1 : IsRow .u8 w p1 n1 c1 zA) (i2 : IsRow .u8 w p2 n2 c2 zB) :
    Calls Try.prog 4 #[.agg #[.int .u8 x0, .int .u8 x1, .int .u8 x2, .int .u8 x3, .int .u8 x4, .int .u8 x5, .int .u8 x6, .int .u8 x7, .int .u8 x8, .int .u8 x9, .int .u8 x10, .int .u8 x11, .int .u8 x12, .int .u8 x13, .int .u8 x14], .int .i64 n, .bool b0, .bool b1, .bool b2, .bool b3, .bool b4, .slice p1 n1 c1, .slice p2 n2 c2] w fun e w' => e = .returned (.bool true) ∧ Below w.heap.size w w' := by
  have hn := bounds_i64 wn
  obtain ⟨I1, B1⟩ := in_of i1
  obtain ⟨I2, B2⟩ := in_of i2
  have l1 : n1 ≤ 9223372036854775807 := by
    rcases i1 with ⟨_, h, _⟩ | ⟨_, _, h1, h2, _⟩
    · omega
    · unfold maxLen at h2; omega
  have l2 : n2 ≤ 9223372036854775807 := by
    rcases i2 with ⟨_, h, _⟩ | ⟨_, _, h1, h2, _⟩
    · omega
    · unfold maxLen at h2; omega
  by_cases h : 1048576 < n1 ∨ 1048576 < n2 ∨ 1048576 < n1 + n2 ∨ n < 0 ∨ 9223372036854775807 - (n1 : Int) - (n2 : Int) < n
  · exact out4 x0 x1 x2 x3 x4 x5 x6 x7 x8 x9 x10 x11 x12 x13 x14 n b0 b1 b2 b3 b4 p1 p2 n1 c1 n2 c2 w l1 l2 (by omega) h
  · obtain ⟨m, rfl⟩ : ∃ m : Nat, n = (m : Int) := ⟨n.toNat, by omega⟩
    exact law4 x0 x1 x2 x3 x4 x5 x6 x7 x8 x9 x10 x11 x12 x13 x14 m b0 b1 b2 b3 b4 p1 p2 n1 c1 n2 c2 _ _ w I1 I2 B1 B2 (by omega) (by omega)

/-! ### THE ROW's STEP -/
set_option maxRecDepth 100000 in
theorem lifted (os : Os) (started : os.Started) (H : Type) (enc : TypeId × Value → H) :
    ReturnsInHanded {} Try.checked os 4 .any (Rows.fnKeepOfConcatenationIsTwoKeepsSpec.pre6 enc Try.prog Try.f4 Rows.fnKeepOfConcatenationIsTwoKeepsRow.domain false) (Rows.fnKeepOfConcatenationIsTwoKeepsSpec.post enc Try.prog Try.f4 false true false false) := by
  refine returnsInHanded_of_change (C := Try.checked) own started (by kernel_rfl) Try.func4
    (ChangeSpec.witness6 (enc := enc) (C := Try.checked) false ⟨#[], #[.agg #[.int .u8 0, .int .u8 0, .int .u8 0, .int .u8 0, .int .u8 0, .int .u8 0, .int .u8 0, .int .u8 0, .int .u8 0, .int .u8 0, .int .u8 0, .int .u8 0, .int .u8 0, .int .u8 0, .int .u8 0], .int .i64 0, .bool false, .bool false, .bool false, .bool false, .bool false, .slice none 0 0, .slice none 0 0], []⟩ 8 (by kernel_rfl) (by kernel_rfl) (by kernel_rfl) (by kernel_rfl)) ?_
  intro W base args ds gs before hval0 hW hcnd _
  have hval : ∀ (j : Nat) t v, Try.f4.params[j]? = some t → args[j]? = some v → Value.okWide Try.prog W .any base t v := hval0
  have hW' := hW
  obtain ⟨p, q, hA0, hV, rfl, hfz, hnd⟩ := hW
  have hA : DataW.TrodAll enc Try.prog W 0 (fun _ => true) true Try.f4.params.toList args.toList ds p := hA0
  rw [Try.params4] at hA hval
  obtain ⟨v0, vs0, d0, ds0, p0, q0, hargs, rfl, rfl, h0, r0⟩ := trodAll_cons hA
  obtain ⟨v1, vs1, d1, ds1, p1, q1, rfl, rfl, rfl, h1, r1⟩ := trodAll_cons r0
  obtain ⟨v2, vs2, d2, ds2, p2, q2, rfl, rfl, rfl, h2, r2⟩ := trodAll_cons r1
  obtain ⟨v3, vs3, d3, ds3, p3, q3, rfl, rfl, rfl, h3, r3⟩ := trodAll_cons r2
  obtain ⟨v4, vs4, d4, ds4, p4, q4, rfl, rfl, rfl, h4, r4⟩ := trodAll_cons r3
  obtain ⟨v5, vs5, d5, ds5, p5, q5, rfl, rfl, rfl, h5, r5⟩ := trodAll_cons r4
  obtain ⟨v6, vs6, d6, ds6, p6, q6, rfl, rfl, rfl, h6, r6⟩ := trodAll_cons r5
  obtain ⟨v7, vs7, d7, ds7, p7, q7, rfl, rfl, rfl, h7, r7⟩ := trodAll_cons r6
  obtain ⟨v8, vs8, d8, ds8, p8, q8, rfl, rfl, rfl, h8, r8⟩ := trodAll_cons r7
  obtain ⟨rfl, rfl, rfl⟩ := trodAll_nil r8
  obtain rfl : args = #[v0, v1, v2, v3, v4, v5, v6, v7, v8] := by cases args; simp_all
  obtain ⟨rfl, rfl⟩ := trodVars_none hV
  have k0 := h0
  have lt0 : ∀ x ∈ p0, x.block < W.heap.size := by obtain ⟨m, hm⟩ := k0; exact DataW.trod_lt m _ _ _ hm
  obtain ⟨x0, x1, x2, x3, x4, x5, x6, x7, x8, x9, x10, x11, x12, x13, x14, rfl⟩ := open_line (hval 0 22 v0 rfl rfl) h0
  obtain ⟨a1, rfl, rfl, rfl, w1⟩ := open_int Try.underlying3 (hval 1 3 v1 rfl rfl) h1
  obtain ⟨a2, rfl, rfl, rfl⟩ := open_bool Try.underlying4 (hval 2 4 v2 rfl rfl) h2
  obtain ⟨a3, rfl, rfl, rfl⟩ := open_bool Try.underlying4 (hval 3 4 v3 rfl rfl) h3
  obtain ⟨a4, rfl, rfl, rfl⟩ := open_bool Try.underlying4 (hval 4 4 v4 rfl rfl) h4
  obtain ⟨a5, rfl, rfl, rfl⟩ := open_bool Try.underlying4 (hval 5 4 v5 rfl rfl) h5
  obtain ⟨a6, rfl, rfl, rfl⟩ := open_bool Try.underlying4 (hval 6 4 v6 rfl rfl) h6
  obtain ⟨a7, len7, cap7, rfl⟩ := okWide_slice Try.underlying23 (hval 7 23 v7 rfl rfl)
  have k7 := h7
  have lt7 : ∀ x ∈ p7, x.block < W.heap.size := by obtain ⟨m, hm⟩ := k7; exact DataW.trod_lt m _ _ _ hm
  obtain ⟨z7, w7⟩ : ∃ zs, IsRow .u8 W a7 len7 cap7 zs := by
    obtain ⟨fuel, hf⟩ := h7
    rcases open_ints Try.underlying23 Try.underlying5 (by kernel_rfl) hf with ⟨hcs, _⟩ | ⟨x, l, c, zs, hcs, _, hl, hm, hz, _, hcell, hwz⟩
    · simp [Value.cells] at hcs
      obtain ⟨rfl, rfl, rfl⟩ := hcs
      exact ⟨[], .inl ⟨rfl, rfl, rfl, rfl⟩⟩
    · simp [Value.cells] at hcs
      obtain ⟨rfl, rfl, rfl⟩ := hcs
      exact ⟨zs, .inr ⟨_, rfl, hl, hm, by simpa using hz, hcell, hwz⟩⟩
  obtain ⟨a8, len8, cap8, rfl⟩ := okWide_slice Try.underlying23 (hval 8 23 v8 rfl rfl)
  have k8 := h8
  have lt8 : ∀ x ∈ p8, x.block < W.heap.size := by obtain ⟨m, hm⟩ := k8; exact DataW.trod_lt m _ _ _ hm
  obtain ⟨z8, w8⟩ : ∃ zs, IsRow .u8 W a8 len8 cap8 zs := by
    obtain ⟨fuel, hf⟩ := h8
    rcases open_ints Try.underlying23 Try.underlying5 (by kernel_rfl) hf with ⟨hcs, _⟩ | ⟨x, l, c, zs, hcs, _, hl, hm, hz, _, hcell, hwz⟩
    · simp [Value.cells] at hcs
      obtain ⟨rfl, rfl, rfl⟩ := hcs
      exact ⟨[], .inl ⟨rfl, rfl, rfl, rfl⟩⟩
    · simp [Value.cells] at hcs
      obtain ⟨rfl, rfl, rfl⟩ := hcs
      exact ⟨zs, .inr ⟨_, rfl, hl, hm, by simpa using hz, hcell, hwz⟩⟩
  clear hA0 hval0
  refine (walk x0 x1 x2 x3 x4 x5 x6 x7 x8 x9 x10 x11 x12 x13 x14 a1 a2 a3 a4 a5 a6 a7 len7 cap7 z7 a8 len8 cap8 z8 W w1 w7 w8).mono fun e W' ⟨he, bel⟩ => ?_
  subst he
  exact ⟨_, rfl, _, _, _, [], _, [], hW', trodAll_mk1 (shut_bool Try.underlying4 _), (trodAll_cons_mk (Below.trod laidOut (by kernel_rfl) (of_decide_eq_true (by kernel_rfl)) k0 bel lt0) (trodAll_cons_mk (shut_int Try.underlying3 w1) (trodAll_cons_mk (shut_bool Try.underlying4 a2) (trodAll_cons_mk (shut_bool Try.underlying4 a3) (trodAll_cons_mk (shut_bool Try.underlying4 a4) (trodAll_cons_mk (shut_bool Try.underlying4 a5) (trodAll_cons_mk (shut_bool Try.underlying4 a6) (trodAll_cons_mk (Below.trod laidOut (by kernel_rfl) (of_decide_eq_true (by kernel_rfl)) k7 bel lt7) (trodAll_cons_mk (Below.trod laidOut (by kernel_rfl) (of_decide_eq_true (by kernel_rfl)) k8 bel lt8) trodAll_mk0))))))))), rfl, bel.frame _, fun h => by cases h⟩

theorem over : Rows.fnKeepOfConcatenationIsTwoKeepsRow.holds Try.pinned (OpenSpec.ofChange Rows.fnKeepOfConcatenationIsTwoKeepsSpec) :=
  OpenClaim.holds_of_wide 4 Try.f4 rfl rfl rfl rfl rfl rfl rfl ⟨rfl, rfl, rfl, rfl, rfl⟩ rfl rfl rfl rfl rfl (by as_aux_lemma => kernel_rfl) Try.func4 (by as_aux_lemma => kernel_rfl)
    (of_decide_eq_true (by as_aux_lemma => kernel_rfl)) (by unfold Func.isWrapper; first | (rw [if_pos (by decide +kernel)]; kernel_rfl) | (rw [if_neg (by decide +kernel)]; exact ⟨rfl, rfl⟩))
    (fun os started H enc _ => lifted os started H enc)

/-- ████ THE STATEMENT ████ -/
theorem proved : Rows.FnKeepOfConcatenationIsTwoKeepsSaid := over
end Go.Proofs.Qxb6601961a.fnKeepOfConcatenationIsTwoKeeps
